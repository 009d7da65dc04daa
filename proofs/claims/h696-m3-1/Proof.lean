import JvmDerived
import JvmDerived.Pilot.@@N@@Statement
import JvmDerived.Pilot.@@N@@Code
set_option linter.unusedVariables false
set_option linter.unusedSimpArgs false
namespace Jvm.RoadKit
open Sem ClassFile Op Lib Jvm.Stand Jvm.Free Jvm.LawKit
section New
variable {p : Program} {l : Launch} {e : Env} {R : Room} {s : State} {m : MethodId} {args : Array Value} {below : List Frame} {meth : Method} {c : Code} {T : State} {locs : List Loc} {cells slots : Nat}
theorem retI (X : Stand p l e R s m args below meth c T locs cells slots) (hx : p.tables.exec = Jvm.exec) {pc : Nat} {Ls : Array Slot} {z : Int32} {rest : List Value} (hret : meth.sig.returnType = some .int) (hd : decode c.code pc = .ok (.ireturn, 1)) {fs : List Frame}
    (hl : ∀ (f : JFrame) (acts : List Action), f.method = m → f.locked = none → f.entered = [] → (doReturn e (T.setTop f) acts (some (.int z))).1 = T.setFrames fs) : Steps p.tables e below (T.setTop (mkF m pc Ls (.int z :: rest))) (T.setFrames fs) :=
  retOut X hx hret rfl (Or.inl ⟨rfl, Or.inl rfl, _, rfl⟩) hd hl
theorem own_fwd {tb : Tables} {e : Env} {below : List Frame} {P : State → Outcome → Prop} {A B : State} (h : ∀ t, Steps tb e below B t → Steps tb e below A t) (k : ∃ t o, Steps tb e below B t ∧ P t o) : ∃ t o, Steps tb e below A t ∧ P t o := by
  obtain ⟨t, o, h1, h2⟩ := k
  exact ⟨t, o, h t h1, h2⟩
theorem own_cut {tb : Tables} {e : Env} {below : List Frame} {P : State → Outcome → Prop} {A : State} {α : Type} {B : α → State} {H : α → Prop} (h : ∀ n, H n → ∃ t o, Steps tb e below (B n) t ∧ P t o) (k : (∀ n, H n → ∃ t o, Steps tb e below (B n) t ∧ P t o) → ∃ t o, Steps tb e below A t ∧ P t o) : ∃ t o, Steps tb e below A t ∧ P t o := k h
theorem own_selfP {s : State} {args : Array Value} {C : String} {x z y : MethodName} (h : (Cond.selects C x z).before args s = true) (hc : z.cls = y.cls) (hp : s.PrivateAt y) (hi : (Cond.instanceMethod y).before args s = true) (hy : y.cls ≠ "java/lang/invoke/MethodHandle" ∧ y.cls ≠ "java/lang/invoke/VarHandle") : (Cond.selects y.cls y y).before args s = true := by
  obtain ⟨c2, r2, m2, -, -, q3, -, kP, hkP, hkPi⟩ := Cond.selects_spec h
  exact selects_self_of_private (hc ▸ findClass_of_methodNamed q3) hkP hkPi hp hi hy
end New
/-- which slots of the cells of h0 may hold something else in h: (x, none): any of x's -/
def KeepF (h0 h : Heap) (ws : List (Addr × Option Nat)) : Prop := ∀ (x : Addr) (c c' : Cell), h0[x]? = some c → h[x]? = some c' → ∀ j, (x, none) ∉ ws → (x, some j) ∉ ws → c'.slots[j]? = c.slots[j]?
section Kf
variable {Z : State} {h h' h0 : Heap} {a b x : Addr} {C n d : String} {v w : Value} {sl : Nat} {ws' : List Addr} {fs fs' : List (Addr × Option Nat)} {o o' : Option Nat}
theorem KeepF.refl (h : Heap) (fs : List (Addr × Option Nat)) : KeepF h h fs := fun x c c' q q' j _ _ => by cases q.symm.trans q'; rfl
theorem KeepF.ext {ws : List Addr} (K : KeepF h0 h fs) (Kp : Keep h0 h ws) (E : Ext h h') : KeepF h0 h' fs := fun x c c' q q' j r1 r2 => by
  obtain ⟨c1, q1, -⟩ := Kp.2.2 x c q
  rw [← Option.some.inj ((E.2 x c1 q1).symm.trans q')]
  exact K x c c1 q q1 j r1 r2
theorem KeepF.trans {ws : List Addr} (K : KeepF h0 h fs) (Kp : Keep h0 h ws) (K' : KeepF h h' fs') (q : ∀ y ∈ fs', y ∈ fs ∨ (y.1, none) ∈ fs ∨ h0.size ≤ y.1) : KeepF h0 h' fs := fun x c c' q0 q' j r1 r2 => by
  obtain ⟨c1, q1, -⟩ := Kp.2.2 x c q0
  have lt := (Array.getElem?_eq_some_iff.mp q0).1
  have a1 : (x, none) ∉ fs' := fun z => (q _ z).elim r1 fun u => u.elim r1 fun u => absurd lt (Nat.not_lt.mpr u)
  have a2 : (x, some j) ∉ fs' := fun z => (q _ z).elim r2 fun u => u.elim r1 fun u => absurd lt (Nat.not_lt.mpr u)
  rw [K' x c1 c' q1 q' j a1 a2, K x c c1 q0 q1 j r1 r2]
theorem KeepF.of_wr (W : Wr h h' a sl v) : KeepF h h' [(a, some sl)] := fun x c c' q q' j r1 r2 => by
  obtain ⟨cb, e1, -, -, -, e5, e6, -⟩ := wr_at W q
  cases e1.symm.trans q'
  by_cases z : x = a
  · subst z
    exact e6 j fun u => r2 (by simp [u])
  · rw [e5 z]
theorem KeepF.wr {ws : List Addr} (K : KeepF h0 h fs) (Kp : Keep h0 h ws) (W : Wr h h' a sl v) (q : (a, some sl) ∈ fs ∨ (a, none) ∈ fs ∨ h0.size ≤ a) : KeepF h0 h' fs := K.trans Kp (KeepF.of_wr W) fun y hy => by cases List.mem_singleton.mp hy; exact q
theorem KeepF.of_keep {ws : List Addr} (Kp : Keep h0 h ws) (q : ∀ y ∈ ws, (y, none) ∈ fs) : KeepF h0 h fs := fun x c c' e e' j r1 r2 => by
  by_cases z : x ∈ ws
  · exact absurd (q x z) r1
  · cases (Kp.2.1 x c e z).symm.trans e'; rfl
theorem Fld.keepF {ws : List Addr} (F : Fld Z h a C n d v) (Kp : Keep h h' ws) (K : KeepF h h' fs) (q1 : (a, none) ∉ fs) (q2 : (a, some (Jvm.RoadKit.slotOf Z C n d)) ∉ fs) : Fld Z h' a C n d v := by
  obtain ⟨cell, cf, k, i, f, h1, h2, h3, h4, h5, h6, h7⟩ := F
  obtain ⟨c', e1, e2, e3, e4⟩ := Kp.2.2 a cell h1
  have es : slotOf Z C n d = f.slot := by simp [slotOf, h2]
  rw [es] at q2
  exact ⟨c', cf, k, i, f, e1, h2, h3, by rw [e3]; exact h4, by rw [e3]; exact h5, by rw [e2]; exact h6, by rw [K a cell c' h1 e1 _ q1 q2]; exact h7⟩
theorem fnin0 {y : Addr × Option Nat} : y ∉ ([] : List (Addr × Option Nat)) := fun q => nomatch q
theorem fninA (q : x ≠ b) (r : (x, o) ∉ fs) : (x, o) ∉ (b, o') :: fs := fun z => (List.mem_cons.mp z).elim (fun u => q (congrArg Prod.fst u)) r
theorem fninB (q : o ≠ o') (r : (x, o) ∉ fs) : (x, o) ∉ (b, o') :: fs := fun z => (List.mem_cons.mp z).elim (fun u => q (congrArg Prod.snd u)) r
theorem fall0 {P : Addr × Option Nat → Prop} : ∀ y ∈ ([] : List (Addr × Option Nat)), P y := fun _ q => nomatch q
theorem fallS {P : Addr × Option Nat → Prop} {y : Addr × Option Nat} (q : P y) (r : ∀ x ∈ fs, P x) : ∀ x ∈ y :: fs, P x := fun x z => (List.mem_cons.mp z).elim (fun u => u ▸ q) (r x)
end Kf
end Jvm.RoadKit
namespace Jvm.RoadKit
open Sem ClassFile Op Lib Jvm.Stand Jvm.Free Jvm.LawKit
section Ref
variable {p : Program} {l : Launch} {e : Env} {R : Room} {s : State} {m : MethodId} {args : Array Value} {below : List Frame} {meth : Method} {c : Code} {T : State} {locs : List Loc} {cells slots : Nat} {Z : State} {a0 : Array Value} {h : Heap}
theorem own_ready (X : Stand p l e R s m args below meth c T locs cells slots) (hZ : Z.Warmed39 s.vm) {own R0 O n d : String} {index cf i : Nat} {k : Class} {f : Field} (hown : s.vm.findClass own = some m.cls) (w : (Cond.fieldRef own index R0 n d).before a0 Z = true) (via : Via Z R0 O n d) (h2 : Z.fieldFound? O n d = some (cf, k, i, f)) : T.vm.fieldReady m.cls index cf f := by
  have hU : Z.Warmed39 T.vm := wtrans hZ X.warmed
  have w' := Cond.fieldRef_warmed39 hU w
  have ho : (Z.setVm T.vm).vm.findClass own = some m.cls := by show T.vm.findClass own = _; rw [X.warmed.alike.findClass]; exact hown
  obtain ⟨c1, k1, i1, f1, hi1, hr⟩ := Cond.fieldRef_spec ho w'
  obtain ⟨k', hi, -⟩ := State.fieldFound?_setVm (s := Z) hU.alike (via _ h2)
  cases hi.symm.trans hi1
  exact hr
theorem own_getFR (X : Stand p l e R s m args below meth c T locs cells slots) (hx : p.tables.exec = Jvm.exec) (hZ : Z.Warmed39 s.vm) {own R0 O n d : String} {index : Nat} (hown : s.vm.findClass own = some m.cls) (w : (Cond.fieldRef own index R0 n d).before a0 Z = true) (via : Via Z R0 O n d)
    (eT : T.heap = h) {a : Addr} {v : Value} (F : Fld Z h a O n d v) {g : JFrame} (hg : g.method = m) {rest : List Value} (hs : g.stack = .ref a :: rest) (hd : decode c.code g.pc = .ok (.getfield index, 3)) : ∃ T', Stand p l e R s m args below meth c T' locs cells slots ∧ T'.heap = h ∧ ∀ target, Steps p.tables e below (T'.setTop { g with pc := g.pc + 3, stack := v :: rest }) target → Steps p.tables e below (T.setTop g) target := by
  obtain ⟨cell, cf, k, i, f, h1, h2, h3, h4, -, -, h7⟩ := F
  have hready := own_ready X hZ hown w via h2
  refine ⟨T, X, eT, fun target hrest => ?_⟩
  subst hg
  jvm_step X.here [hx, hd, getfield.wp_ready (e := e) (s := T) (f := g) X.here.top hready h3 hs (show T.heap[a]? = some cell by rw [eT]; exact h1) h4 h7]
  exact hrest
theorem own_putFR (X : Stand p l e R s m args below meth c T locs cells slots) (hx : p.tables.exec = Jvm.exec) (hZ : Z.Warmed39 s.vm) {own R0 O n d C : String} {index kk : Nat} {ty : FieldType} (hown : s.vm.findClass own = some m.cls) (w : (Cond.fieldRef own index R0 n d).before a0 Z = true) (via : Via Z R0 O n d)
    (eT : T.heap = h) {a : Addr} {v old : Value} (F : Fld Z h a O n d old) (E : Exa Z h a C) (L : (Cond.lays C O n d).before a0 Z = true) (wi : (Cond.instantiable C kk).before a0 Z = true)
    (hty : parseFieldDescriptor d = some ty) (hn : narrow ty v = v) (hf : fits ty v = true) {g : JFrame} (hg : g.method = m) {rest : List Value} (hs : g.stack = v :: .ref a :: rest) (hd : decode c.code g.pc = .ok (.putfield index, 3)) :
    ∃ T' h', Stand p l e R s m args below meth c T' (locs ++ [⟨a, slotOf Z O n d⟩]) cells slots ∧ T'.heap = h' ∧ Wr h h' a (slotOf Z O n d) v ∧ ∀ target, Steps p.tables e below (T'.setTop { g with pc := g.pc + 3, stack := rest }) target → Steps p.tables e below (T.setTop g) target := by
  obtain ⟨cell, cf, k, i, f, h1, h2, h3, h4, h5, -, h7⟩ := F
  obtain ⟨cell', kc, e1, e2, e3, -⟩ := E
  cases h1.symm.trans e1
  obtain ⟨c1, k1, cf1, kf1, i1, f1, a1, a2, a3, -, -, a6, -⟩ := Laid.spec (Or.inl L)
  cases h2.symm.trans a3
  cases e2.symm.trans a1
  obtain ⟨c2, k2, i1, i2, i3, -⟩ := Cond.instantiable_spec wi
  cases e2.symm.trans i1
  cases a2.symm.trans i2
  have ht := (State.fieldFound?_type h2 hty).2
  have hfit : Z.fitsSlot cell.cls cell.vm f.slot v = true := by
    have q : Z.slotType? cell.cls cell.vm f.slot = some ty := by
      simp only [State.slotType?, a2, Option.bind_eq_bind, Option.bind_some, i3]
      cases hq : cell.vm <;> first | (rw [hq] at h5; exact Bool.noConfusion h5) | (rw [a6, ht])
    simp [State.fitsSlot, q, hf]
  have hU : Z.Warmed39 T.vm := wtrans hZ X.warmed
  have hfit' : T.fitsSlot cell.cls cell.vm f.slot v = true := by rw [← State.fitsSlot_setVm hU.alike] at hfit; exact hfit
  obtain ⟨_, _, _, _, _, _, -, -, b3, -, b5, -⟩ := Cond.lays_spec L
  cases h2.symm.trans b3
  have hlt := (Array.getElem?_eq_some_iff.mp h7).1
  have es : slotOf Z O n d = f.slot := by simp [slotOf, h2]
  rw [es]
  obtain ⟨X', st⟩ := X.putfieldReady hx (own_ready X hZ hown w via h2) h3 (Or.inl b5) (by rw [eT]; exact h1) h4 hlt (by rw [ht]; exact hn) hfit' hg hs hd
  exact ⟨_, _, X', rfl, ⟨cell, h1, h5, hlt, by rw [← eT]; rfl⟩, st⟩
theorem own_refReady (e : Env) (hZ : Z.Warmed39 s.vm) {own : String} {index : Nat} {y : MethodName} (hown : s.vm.findClass own = some m.cls) (w : (Cond.methodRef own index y).before a0 Z = true) (hy : y.cls ≠ "java/lang/invoke/MethodHandle" ∧ y.cls ≠ "java/lang/invoke/VarHandle") (U : State) (r : MethodId) (hW : s.WarmedH U.vm) (hn : s.methodNamed? y = some r) : namesResolved U.vm m.cls index r.cls ∧ U.vm.methodReady m.cls index r := by
  have hU : Z.Warmed39 U.vm := wtrans hZ hW
  have hnZ : Z.methodNamed? y = some r := (State.methodNamed?_setVm (s := Z) hZ.alike y).symm.trans hn
  have w' := Cond.methodRef_warmed39 hU hnZ hy w
  have ho : (Z.setVm U.vm).vm.findClass own = some m.cls := by show U.vm.findClass own = _; rw [hW.alike.findClass]; exact hown
  obtain ⟨m', c', h1, h2, h3, h4⟩ := Cond.methodRef_named e ho w'
  have hnU : (Z.setVm U.vm).methodNamed? y = some r := (State.methodNamed?_setVm (s := s) hW.alike y).trans hn
  cases h1.symm.trans (State.methodFound?_of_named hnU hy)
  cases h3.symm.trans (findClass_of_methodNamed hnU)
  exact ⟨h4, h2⟩
theorem own_specialR (X : Stand p l e R s m args below meth c T locs cells slots) (hexec : p.tables.exec = Jvm.exec) {own : String} {index : Nat} {y : MethodName} (hy1 : y.name = "<init>") (hZ : Z.Warmed39 s.vm)
    (hown : s.vm.findClass own = some m.cls) (w : (Cond.methodRef own index y).before a0 Z = true) (hinst : (Cond.instanceMethod y).before args s = true)
    {bytes : ByteArray} {maxL : Nat} (hcode : (Cond.code y bytes maxL none).before args s = true)
    (hy : y.cls ≠ "java/lang/invoke/MethodHandle" ∧ y.cls ≠ "java/lang/invoke/VarHandle")
    {W : Nat} {Pre : Pt → Array Value → Prop} {Post : Pt → Array Value → Option Value → Pt → Prop} (hK : Back l R p e below s args y 3 W Pre Post)
    {g : JFrame} (hg : g.method = m) (hsize : g.locals.size = c.maxLocals) {s₀ : State} (hcome : Steps p.tables e below s₀ (T.setTop g)) {a : Addr} {argsL rest : List Value}
    (hlen : ∀ sig, parseMethodDescriptor y.desc = some sig → argsL.length = sig.parameters.length) (hstack : g.stack = argsL.reverse ++ .ref a :: rest) (hW : 2 * g.monitorRoom + (rest.map fun v => v.category).sum ≤ W)
    (hdg : decode c.code g.pc = .ok (.invokespecial index, 3)) (hpre : ∀ vm₁, s.WarmedH vm₁ → Pre ⟨T.setVm vm₁, locs, cells, slots⟩ (.ref a :: argsL).toArray) :
    ∃ (v : Option Value) (vm₁ : Vm) (B : Pt), s.WarmedH vm₁ ∧ Stand p l e R s m args below meth c B.U B.locs B.cells B.slots ∧ Post ⟨T.setVm vm₁, locs, cells, slots⟩ (.ref a :: argsL).toArray v B ∧
      Steps p.tables e below s₀ (B.U.setTop { g with pc := g.pc + 3, stack := v.toList ++ rest }) :=
  SCall.of_ready hexec hy1 hinst hcode (own_refReady e hZ hown w hy) X hK hg hsize hcome hlen hstack hW hdg hpre
theorem own_callSU (X : Stand p l e R s m args below meth c T locs cells slots) (hexec : p.tables.exec = Jvm.exec) {own owner : String} {index : Nat} {x : MethodName} {bytes : ByteArray} {maxL : Nat} {ret : Option FieldType}
    (hown : s.vm.findClass own = some m.cls) (hlink : (Cond.methodLink own index x).before args s = true) (hsame : (Cond.sameMethod x.cls owner x.name x.desc).before args s = true) (hstat : (Cond.static ⟨owner, x.name, x.desc⟩).before args s = true) (hinit : (Cond.initialized owner).before args s = true)
    (hcode : (Cond.code ⟨owner, x.name, x.desc⟩ bytes maxL ret).before args s = true) (hy : owner ≠ "java/lang/invoke/MethodHandle" ∧ owner ≠ "java/lang/invoke/VarHandle")
    {W : Nat} {Pre : Pt → Array Value → Prop} {Post : Pt → Array Value → Option Value → Pt → Prop} (hK : Back l R p e below s args ⟨owner, x.name, x.desc⟩ 3 W Pre Post)
    {g : JFrame} (hg : g.method = m) (hsize : g.locals.size = c.maxLocals) {argsL rest : List Value} (hlen : ∀ sig, parseMethodDescriptor x.desc = some sig → argsL.length = sig.parameters.length)
    (hstack : g.stack = argsL.reverse ++ rest) (hW : 2 * g.monitorRoom + (rest.map fun v => v.category).sum ≤ W) (hdg : decode c.code g.pc = .ok (.invokestatic index, 3))
    (hpre : ∀ vm₁, s.WarmedH vm₁ → Pre ⟨T.setVm vm₁, locs, cells, slots⟩ argsL.toArray) :
    ∃ (v : Option Value) (vm₁ : Vm) (B : Pt), s.WarmedH vm₁ ∧ Stand p l e R s m args below meth c B.U B.locs B.cells B.slots ∧ Post ⟨T.setVm vm₁, locs, cells, slots⟩ argsL.toArray v B ∧
      ∀ target, Steps p.tables e below (B.U.setTop { g with pc := g.pc + 3, stack := v.toList ++ rest }) target → Steps p.tables e below (T.setTop g) target := by
  obtain ⟨mk, hnamed⟩ := Cond.code_named hcode
  obtain ⟨methM, cM, hmethM, -, -, -, -, -, -, hsigM⟩ := Cond.code_spec hnamed hcode
  obtain ⟨v, vm₁, B, q1, q2, q3, q4⟩ := X.staticBackUp hexec hown hlink hsame hstat hinit hnamed hmethM hsigM hy hK hg hsize (Steps.refl _) hlen hstack hW hdg hpre
  exact ⟨v, vm₁, B, q1, q2, q3, fun target h => q4.trans h⟩
end Ref
end Jvm.RoadKit
namespace Jvm.RoadKit
open Sem ClassFile Op Lib Jvm.Stand Jvm.Free Jvm.LawKit
/-- from A the run comes to an end at which P holds -/
def Go (tb : Tables) (e : Env) (below : List Frame) (P : State → Outcome → Prop) (A : State) : Prop := ∃ t o, Steps tb e below A t ∧ P t o
/-- what a walk keeps of the heap at its start -/
def Inv (Z : State) (n0 : Nat) (h0 h : Heap) (ws : List Addr) (fs : List (Addr × Option Nat)) : Prop := n0 ≤ h0.size ∧ Keep h0 h ws ∧ KeepF h0 h fs ∧ Old Z n0 h
abbrev IO (Z : State) (n0 : Nat) (h : Heap) : Prop := n0 ≤ h.size ∧ Old Z n0 h
theorem tL {a b c : Nat} (h : a < b) (q : b ≤ c) : a < c := Nat.lt_of_lt_of_le h q
theorem nL {a b : Nat} (h : a < b) : a ≠ b := Nat.ne_of_lt h
theorem nS {a b : Nat} (h : a ≠ b) : b ≠ a := h.symm
/-- a body's contract -/
abbrev OwnM (l : Launch) (y : MethodName) (cw : Jvm.Cond) (R : Room) (A : Array Value) (Z : State) (h0 : Heap) (Q : Option Value → Heap → List Loc → Prop) : Prop :=
  MetFree l y (head1 [cw] R) (fun a U => a = A ∧ Z.Warmed39 U.vm ∧ U.heap = h0) (fun _ _ _ _ _ => True) (fun _ U o U' => ∃ v L, o = .returned v ∧ Q v U'.heap L ∧ FrameEnd U o U' L R.cells R.slots)
/-- what stays through a body's walk -/
def OwnB (p : Program) (s : State) (m : MethodId) (meth : Method) (c : Code) (Z : State) (own : String) (bytes : ByteArray) (maxL : Nat) (ret : Option FieldType) (nm : String) : Prop :=
  p.tables.exec = Jvm.exec ∧ Z.Warmed39 s.vm ∧ s.vm.findClass own = some m.cls ∧ c.code = bytes ∧ c.maxLocals = maxL ∧ meth.sig.returnType = ret ∧ meth.name = nm ∧ meth.locks = false
/-- where a walk stands -/
def OwnS (p : Program) (l : Launch) (e : Env) (R : Room) (s : State) (m : MethodId) (args : Array Value) (below : List Frame) (meth : Method) (c : Code) (Z T : State) (h : Heap) (locs : List Loc) (cells slots n0 : Nat) (h0 : Heap) (ws : List Addr) (fs : List (Addr × Option Nat)) : Prop :=
  Stand p l e R s m args below meth c T locs cells slots ∧ T.heap = h ∧ Fr n0 locs ∧ Inv Z n0 h0 h ws fs
/-- a body's end -/
def Fin2 (s : State) (below : List Frame) (R : Room) (Q : Option Value → Heap → List Loc → Prop) (t : State) (o : Outcome) : Prop := t.status = .running ∧ Ended t below o ∧ ∃ v L, o = .returned v ∧ Q v t.heap L ∧ FrameEnd s o t L R.cells R.slots
theorem own_le {a b : Nat} (h : Nat.ble a b = true) : a ≤ b := Nat.le_of_ble_eq_true h
section Kg
variable {Z : State} {h h' h0 : Heap} {a b x : Addr} {C n d : String} {v w : Value} {sl n0 : Nat} {ws ws' : List Addr} {fs fs' : List (Addr × Option Nat)} {o' o'' : Option Nat}
theorem Inv.ext (I : Inv Z n0 h0 h ws fs) (E : Ext h h') : Inv Z n0 h0 h' ws fs := ⟨I.1, I.2.1.ext E, I.2.2.1.ext I.2.1 E, I.2.2.2.ext E⟩
theorem Inv.wr (I : Inv Z n0 h0 h ws fs) (W : Wr h h' a sl v) (q : a ∈ ws) (r : (a, some sl) ∈ fs ∨ (a, none) ∈ fs) (g : n0 ≤ a) : Inv Z n0 h0 h' ws fs :=
  ⟨I.1, I.2.1.wr W (Or.inl q), I.2.2.1.trans I.2.1 (KeepF.of_wr W) (fun y hy => by cases List.mem_singleton.mp hy; exact r.imp id Or.inl), I.2.2.2.wr W g⟩
theorem Inv.wrN (I : Inv Z n0 h0 h ws fs) (W : Wr h h' a sl v) (q : h0.size ≤ a) : Inv Z n0 h0 h' ws fs :=
  ⟨I.1, I.2.1.wr W (Or.inr q), I.2.2.1.trans I.2.1 (KeepF.of_wr W) (fun y hy => by cases List.mem_singleton.mp hy; exact Or.inr (Or.inr q)), I.2.2.2.wr W (Nat.le_trans I.1 q)⟩
theorem Inv.keep (I : Inv Z n0 h0 h ws fs) (K : Keep h h' ws') (F : KeepF h h' fs') (q : ∀ x ∈ ws', x ∈ ws ∨ h0.size ≤ x) (r : ∀ y ∈ fs', y ∈ fs ∨ (y.1, none) ∈ fs ∨ h0.size ≤ y.1) (g : ∀ x ∈ ws', n0 ≤ x) : Inv Z n0 h0 h' ws fs :=
  ⟨I.1, I.2.1.trans K q, I.2.2.1.trans I.2.1 F r, I.2.2.2.keep K g⟩
/-- of the written places none is this one -/
def Nof (a : Addr) (sl : Nat) (fs : List (Addr × Option Nat)) : Prop := (a, none) ∉ fs ∧ (a, some sl) ∉ fs
theorem nof0 : Nof a sl [] := ⟨fnin0, fnin0⟩
theorem nofA (q : a ≠ b) (r : Nof a sl fs) : Nof a sl ((b, o') :: fs) := ⟨fninA q r.1, fninA q r.2⟩
theorem nofB {sl' : Nat} (q : sl ≠ sl') (r : Nof a sl fs) : Nof a sl ((a, some sl') :: fs) := ⟨fninB nofun r.1, fninB (fun u => q (Option.some.inj u)) r.2⟩
theorem Fld.kf (F : Fld Z h a C n d v) (Kp : Keep h h' ws) (K : KeepF h h' fs) (q : Nof a (slotOf Z C n d) fs) : Fld Z h' a C n d v := F.keepF Kp K q.1 q.2
end Kg
section Sgs
variable {p : Program} {l : Launch} {e : Env} {R : Room} {s : State} {m : MethodId} {args : Array Value} {below : List Frame} {meth : Method} {c : Code} {T : State} {locs : List Loc} {cells slots : Nat} {Z : State} {a0 : Array Value} {h h' h0 : Heap} {P : State → Outcome → Prop} {pc n0 : Nat} {Ls l' : Array Slot} {st : List Value} {ws ws' : List Addr} {fs fs' : List (Addr × Option Nat)} {own : String} {bytes : ByteArray} {maxL : Nat} {ret : Option FieldType} {nm : String} {a : Addr}
theorem OwnS.z (S : OwnS p l e R s m args below meth c Z T h locs cells slots n0 h0 ws fs) : n0 ≤ h.size := Nat.le_trans S.2.2.2.1 S.2.2.2.2.1.1
theorem OwnS.k (S : OwnS p l e R s m args below meth c Z T h locs cells slots n0 h0 ws fs) : Keep h0 h ws := S.2.2.2.2.1
theorem OwnS.kf (S : OwnS p l e R s m args below meth c Z T h locs cells slots n0 h0 ws fs) : KeepF h0 h fs := S.2.2.2.2.2.1
theorem OwnS.o (S : OwnS p l e R s m args below meth c Z T h locs cells slots n0 h0 ws fs) : Old Z n0 h := S.2.2.2.2.2.2
theorem OwnS.i (S : OwnS p l e R s m args below meth c Z T h locs cells slots n0 h0 ws fs) : n0 ≤ h.size ∧ Old Z n0 h := ⟨S.z, S.o⟩
theorem OwnS.f (S : OwnS p l e R s m args below meth c Z T h locs cells slots n0 h0 ws fs) : Fr n0 locs := S.2.2.1
theorem OwnS.sz (S : OwnS p l e R s m args below meth c Z T h locs cells slots n0 h0 ws fs) (q : h.size ≤ a) : h0.size ≤ a := Nat.le_trans S.2.2.2.2.1.1 q
theorem OwnS.ge (S : OwnS p l e R s m args below meth c Z T h locs cells slots n0 h0 ws fs) (q : h.size ≤ a) : n0 ≤ a := Nat.le_trans S.z q
theorem own_go {tb : Tables} {A B : State} (h : ∀ t, Steps tb e below B t → Steps tb e below A t) (k : Go tb e below P B) : Go tb e below P A := by
  obtain ⟨t, o, h1, h2⟩ := k
  exact ⟨t, o, h t h1, h2⟩
theorem gRv {tb : Tables} {v : Value} (k : Go tb e below P (T.setTop (mkF m pc Ls (v :: st)))) : Go tb e below P (T.setTop (mkF m pc Ls ((some v).toList ++ st))) := k
theorem gRn {tb : Tables} (k : Go tb e below P (T.setTop (mkF m pc Ls st))) : Go tb e below P (T.setTop (mkF m pc Ls ((none : Option Value).toList ++ st))) := k
theorem own_open {y : MethodName} {A : Array Value} {Q : Option Value → Heap → List Loc → Prop} (ws : List Addr) (fs : List (Addr × Option Nat)) (L0 : Array Slot) (plain : plainFor y = true) (I0 : IO Z n0 h0)
    (K : ∀ (p : Program) (e : Env) (s : State) (m : MethodId) (below : List Frame) (meth : Method) (c : Code) (T : State), OwnB p s m meth c Z y.cls bytes maxL ret y.name → OwnS p l e R s m A below meth c Z T h0 [] 0 0 n0 h0 ws fs → Go p.tables e below (Fin2 s below R Q) (T.setTop (mkF m 0 L0 []))) (ef : ∀ m, entryFrame m A maxL = mkF m 0 L0 [] := by intro _; first | rfl | (simp [entryFrame, mkF, argsToLocals, Value.category]; done)) : OwnM l y (Jvm.Cond.code y bytes maxL ret) R A Z h0 Q := by
  refine MetFree.of_bodySF plain hisR ?_
  intro p e s m args below meth c s₁ Bd hml0 hP hK
  obtain ⟨rfl, hZ, hh⟩ := hP
  obtain ⟨t, o, q1, q2, q3, q4⟩ := K p e s m below meth c s₁ ⟨Bd.exec, hZ, findClass_of_methodNamed Bd.named, Bd.bytes, hml0, Bd.returns, (name_of_methodNamed Bd.named Bd.method).1, BodyLoose.notSynchronized Bd⟩ ⟨Stand.of_body Bd, by rw [← hh, Bd.state]; rfl, Fr.nil n0, I0.1, Keep.refl _ _, KeepF.refl _ _, I0.2⟩
  exact ⟨t, o, castTop (ef m) q1, q2, q3, q4⟩
theorem own_openW {y : MethodName} {A : Array Value} {hs : List (Nat × Nat × Nat × Nat)} {Q : Option Value → Heap → List Loc → Prop} (ws : List Addr) (fs : List (Addr × Option Nat)) (L0 : Array Slot) (plain : plainFor y = true) (I0 : IO Z n0 h0)
    (K : ∀ (p : Program) (e : Env) (s : State) (m : MethodId) (below : List Frame) (meth : Method) (c : Code) (T : State), OwnB p s m meth c Z y.cls bytes maxL ret y.name → OwnS p l e R s m A below meth c Z T h0 [] 0 0 n0 h0 ws fs → Go p.tables e below (Fin2 s below R Q) (T.setTop (mkF m 0 L0 []))) (ef : ∀ m, entryFrame m A maxL = mkF m 0 L0 [] := by intro _; first | rfl | (simp [entryFrame, mkF, argsToLocals, Value.category]; done)) : OwnM l y (Jvm.Cond.codeWith y bytes maxL ret hs) R A Z h0 Q := by
  refine MetFree.of_bodySF plain hisWith ?_
  intro p e s m args below meth c s₁ Bd hml0 hP hK
  obtain ⟨rfl, hZ, hh⟩ := hP
  obtain ⟨t, o, q1, q2, q3, q4⟩ := K p e s m below meth c s₁ ⟨Bd.exec, hZ, findClass_of_methodNamed Bd.named, Bd.bytes, hml0, Bd.returns, (name_of_methodNamed Bd.named Bd.method).1, BodyLoose.notSynchronized Bd⟩ ⟨Stand.of_body Bd, by rw [← hh, Bd.state]; rfl, Fr.nil n0, I0.1, Keep.refl _ _, KeepF.refl _ _, I0.2⟩
  exact ⟨t, o, castTop (ef m) q1, q2, q3, q4⟩
theorem gAl (b : OwnB p s m meth c Z own bytes maxL ret nm) (S : OwnS p l e R s m args below meth c Z T h locs cells slots n0 h0 ws fs) {k : Fin 4} {v : Value} (hd : decode bytes pc = .ok (.aload_n k, 1)) (hl : Ls[k.val]? = some (.val v)) (hv : v.isRef = true) (n : Nat) (hn : pc + 1 = n) (k' : Go p.tables e below P (T.setTop (mkF m n Ls (v :: st)))) : Go p.tables e below P (T.setTop (mkF m pc Ls (st))) := by
  subst hn; exact own_go (fun t k => XS.aloadN S.1.here b.1 rfl (hb b.2.2.2.1 hd) hl hv k) k'
theorem gIl (b : OwnB p s m meth c Z own bytes maxL ret nm) (S : OwnS p l e R s m args below meth c Z T h locs cells slots n0 h0 ws fs) {k : Fin 4} {v : Int32} (hd : decode bytes pc = .ok (.iload_n k, 1)) (hl : Ls[k.val]? = some (.val (.int v))) (n : Nat) (hn : pc + 1 = n) (k' : Go p.tables e below P (T.setTop (mkF m n Ls (.int v :: st)))) : Go p.tables e below P (T.setTop (mkF m pc Ls (st))) := by
  subst hn; exact own_go (fun t k => XS.iloadN S.1.here b.1 rfl (hb b.2.2.2.1 hd) hl k) k'
theorem gAs (b : OwnB p s m meth c Z own bytes maxL ret nm) (S : OwnS p l e R s m args below meth c Z T h locs cells slots n0 h0 ws fs) {k : Fin 4} {v : Value} (hd : decode bytes pc = .ok (.astore_n k, 1)) (hv : v.isRef = true) (l' : Array Slot) (hl : storeLocals Ls k.val v = some l') (n : Nat) (hn : pc + 1 = n) (k' : Go p.tables e below P (T.setTop (mkF m n l' (st)))) : Go p.tables e below P (T.setTop (mkF m pc Ls (v :: st))) := by
  subst hn; exact own_go (fun t k => XS.astoreN S.1.here b.1 rfl (hb b.2.2.2.1 hd) rfl hv hl k) k'
theorem gIs (b : OwnB p s m meth c Z own bytes maxL ret nm) (S : OwnS p l e R s m args below meth c Z T h locs cells slots n0 h0 ws fs) {k : Fin 4} {v : Int32} (hd : decode bytes pc = .ok (.istore_n k, 1)) (l' : Array Slot) (hl : storeLocals Ls k.val (.int v) = some l') (n : Nat) (hn : pc + 1 = n) (k' : Go p.tables e below P (T.setTop (mkF m n l' (st)))) : Go p.tables e below P (T.setTop (mkF m pc Ls (.int v :: st))) := by
  subst hn; exact own_go (fun t k => XS.istoreN S.1.here b.1 rfl (hb b.2.2.2.1 hd) rfl hl k) k'
theorem gAlW (b : OwnB p s m meth c Z own bytes maxL ret nm) (S : OwnS p l e R s m args below meth c Z T h locs cells slots n0 h0 ws fs) {k : Nat} {v : Value} (hd : decode bytes pc = .ok (.aload k, 2)) (hl : Ls[k]? = some (.val v)) (hv : v.isRef = true) (n : Nat) (hn : pc + 2 = n) (k' : Go p.tables e below P (T.setTop (mkF m n Ls (v :: st)))) : Go p.tables e below P (T.setTop (mkF m pc Ls (st))) := by
  subst hn; exact own_go (fun t k => XS.aload S.1.here b.1 rfl (hb b.2.2.2.1 hd) hl hv k) k'
theorem gIlW (b : OwnB p s m meth c Z own bytes maxL ret nm) (S : OwnS p l e R s m args below meth c Z T h locs cells slots n0 h0 ws fs) {k : Nat} {v : Int32} (hd : decode bytes pc = .ok (.iload k, 2)) (hl : Ls[k]? = some (.val (.int v))) (n : Nat) (hn : pc + 2 = n) (k' : Go p.tables e below P (T.setTop (mkF m n Ls (.int v :: st)))) : Go p.tables e below P (T.setTop (mkF m pc Ls (st))) := by
  subst hn; exact own_go (fun t k => XS.iload S.1.here b.1 rfl (hb b.2.2.2.1 hd) hl k) k'
theorem gAsW (b : OwnB p s m meth c Z own bytes maxL ret nm) (S : OwnS p l e R s m args below meth c Z T h locs cells slots n0 h0 ws fs) {k : Nat} {v : Value} (hd : decode bytes pc = .ok (.astore k, 2)) (hv : v.isRef = true) (l' : Array Slot) (hl : storeLocals Ls k v = some l') (n : Nat) (hn : pc + 2 = n) (k' : Go p.tables e below P (T.setTop (mkF m n l' (st)))) : Go p.tables e below P (T.setTop (mkF m pc Ls (v :: st))) := by
  subst hn; exact own_go (fun t k => XS.astore S.1.here b.1 rfl (hb b.2.2.2.1 hd) rfl hv hl k) k'
theorem gIsW (b : OwnB p s m meth c Z own bytes maxL ret nm) (S : OwnS p l e R s m args below meth c Z T h locs cells slots n0 h0 ws fs) {k : Nat} {v : Int32} (hd : decode bytes pc = .ok (.istore k, 2)) (l' : Array Slot) (hl : storeLocals Ls k (.int v) = some l') (n : Nat) (hn : pc + 2 = n) (k' : Go p.tables e below P (T.setTop (mkF m n l' (st)))) : Go p.tables e below P (T.setTop (mkF m pc Ls (.int v :: st))) := by
  subst hn; exact own_go (fun t k => XS.istore S.1.here b.1 rfl (hb b.2.2.2.1 hd) rfl hl k) k'
theorem gIc (b : OwnB p s m meth c Z own bytes maxL ret nm) (S : OwnS p l e R s m args below meth c Z T h locs cells slots n0 h0 ws fs) {i : Int} (hd : decode bytes pc = .ok (.iconst i, 1)) (z : Int32) (hz : Int32.ofInt i = z) (n : Nat) (hn : pc + 1 = n) (k' : Go p.tables e below P (T.setTop (mkF m n Ls (.int z :: st)))) : Go p.tables e below P (T.setTop (mkF m pc Ls st)) := by
  subst hn hz; exact own_go (fun t k => XS.iconst S.1.here b.1 rfl (hb b.2.2.2.1 hd) k) k'
theorem gBi (b : OwnB p s m meth c Z own bytes maxL ret nm) (S : OwnS p l e R s m args below meth c Z T h locs cells slots n0 h0 ws fs) {i : Int} (hd : decode bytes pc = .ok (.bipush i, 2)) (z : Int32) (hz : (Int8.ofInt i).toInt32 = z) (n : Nat) (hn : pc + 2 = n) (k' : Go p.tables e below P (T.setTop (mkF m n Ls (.int z :: st)))) : Go p.tables e below P (T.setTop (mkF m pc Ls st)) := by
  subst hn hz; exact own_go (fun t k => XS.bipush S.1.here b.1 rfl (hb b.2.2.2.1 hd) k) k'
theorem gNull (b : OwnB p s m meth c Z own bytes maxL ret nm) (S : OwnS p l e R s m args below meth c Z T h locs cells slots n0 h0 ws fs) (hd : decode bytes pc = .ok (.aconst_null, 1)) (n : Nat) (hn : pc + 1 = n) (k' : Go p.tables e below P (T.setTop (mkF m n Ls (.null :: st)))) : Go p.tables e below P (T.setTop (mkF m pc Ls (st))) := by
  subst hn; exact own_go (fun t k => XS.aconstNull S.1.here b.1 rfl (hb b.2.2.2.1 hd) k) k'
theorem gDup (b : OwnB p s m meth c Z own bytes maxL ret nm) (S : OwnS p l e R s m args below meth c Z T h locs cells slots n0 h0 ws fs) {v : Value} (hd : decode bytes pc = .ok (.dup, 1)) (hv : v.category = 1) (n : Nat) (hn : pc + 1 = n) (k' : Go p.tables e below P (T.setTop (mkF m n Ls (v :: v :: st)))) : Go p.tables e below P (T.setTop (mkF m pc Ls (v :: st))) := by
  subst hn; exact own_go (fun t k => XS.dup S.1.here b.1 rfl (hb b.2.2.2.1 hd) rfl hv k) k'
theorem gDx (b : OwnB p s m meth c Z own bytes maxL ret nm) (S : OwnS p l e R s m args below meth c Z T h locs cells slots n0 h0 ws fs) {v w : Value} (hd : decode bytes pc = .ok (.dup_x1, 1)) (hv : v.category = 1) (hw : w.category = 1) (n : Nat) (hn : pc + 1 = n) (k' : Go p.tables e below P (T.setTop (mkF m n Ls (v :: w :: v :: st)))) : Go p.tables e below P (T.setTop (mkF m pc Ls (v :: w :: st))) := by
  subst hn; exact own_go (fun t k => XS.dupX1 S.1.here b.1 rfl (hb b.2.2.2.1 hd) rfl hv hw k) k'
theorem gPop (b : OwnB p s m meth c Z own bytes maxL ret nm) (S : OwnS p l e R s m args below meth c Z T h locs cells slots n0 h0 ws fs) {v : Value} (hd : decode bytes pc = .ok (.pop, 1)) (hv : v.category = 1) (n : Nat) (hn : pc + 1 = n) (k' : Go p.tables e below P (T.setTop (mkF m n Ls (st)))) : Go p.tables e below P (T.setTop (mkF m pc Ls (v :: st))) := by
  subst hn; exact own_go (fun t k => XS.pop S.1.here b.1 rfl (hb b.2.2.2.1 hd) rfl hv k) k'
theorem gAdd (b : OwnB p s m meth c Z own bytes maxL ret nm) (S : OwnS p l e R s m args below meth c Z T h locs cells slots n0 h0 ws fs) {x y : Int32} (hd : decode bytes pc = .ok (.iadd, 1)) (z : Int32) (hz : x + y = z) (n : Nat) (hn : pc + 1 = n) (k' : Go p.tables e below P (T.setTop (mkF m n Ls (.int z :: st)))) : Go p.tables e below P (T.setTop (mkF m pc Ls (.int y :: .int x :: st))) := by
  subst hn hz; exact own_go (fun t k => XS.iadd S.1.here b.1 rfl (hb b.2.2.2.1 hd) rfl k) k'
theorem gSub (b : OwnB p s m meth c Z own bytes maxL ret nm) (S : OwnS p l e R s m args below meth c Z T h locs cells slots n0 h0 ws fs) {x y : Int32} (hd : decode bytes pc = .ok (.isub, 1)) (z : Int32) (hz : x - y = z) (n : Nat) (hn : pc + 1 = n) (k' : Go p.tables e below P (T.setTop (mkF m n Ls (.int z :: st)))) : Go p.tables e below P (T.setTop (mkF m pc Ls (.int y :: .int x :: st))) := by
  subst hn hz; exact own_go (fun t k => XS.isub S.1.here b.1 rfl (hb b.2.2.2.1 hd) rfl k) k'
theorem gInc (b : OwnB p s m meth c Z own bytes maxL ret nm) (S : OwnS p l e R s m args below meth c Z T h locs cells slots n0 h0 ws fs) {k : Nat} {cst : Int} {x : Int32} (hd : decode bytes pc = .ok (.iinc k cst, 3)) (hl : Ls[k]? = some (.val (.int x))) (l' : Array Slot) (hl' : storeLocals Ls k (.int (x + Int32.ofInt cst)) = some l') (n : Nat) (hn : pc + 3 = n) (k' : Go p.tables e below P (T.setTop (mkF m n l' st))) : Go p.tables e below P (T.setTop (mkF m pc Ls st)) := by
  subst hn; exact own_go (fun t k => XS.iinc S.1.here b.1 rfl (hb b.2.2.2.1 hd) hl hl' k) k'
theorem gGoto (b : OwnB p s m meth c Z own bytes maxL ret nm) (S : OwnS p l e R s m args below meth c Z T h locs cells slots n0 h0 ws fs) {o : Int} (hd : decode bytes pc = .ok (.goto o, 3)) (n : Nat) (ho : 0 ≤ (pc : Int) + o) (hn : ((pc : Int) + o).toNat = n) (k' : Go p.tables e below P (T.setTop (mkF m n Ls st))) : Go p.tables e below P (T.setTop (mkF m pc Ls (st))) := own_go (fun t k => XS.goto S.1.here b.1 rfl (pc0 := pc) rfl (hb b.2.2.2.1 hd) ho hn k) k'
theorem gIfY (b : OwnB p s m meth c Z own bytes maxL ret nm) (S : OwnS p l e R s m args below meth c Z T h locs cells slots n0 h0 ws fs) {cd : ClassFile.Cond} {x : Int32} {o : Int} (hd : decode bytes pc = .ok (.ifCond cd o, 3)) (hc : ifCond.holds cd x = true) (n : Nat) (ho : 0 ≤ (pc : Int) + o) (hn : ((pc : Int) + o).toNat = n) (k' : Go p.tables e below P (T.setTop (mkF m n Ls st))) : Go p.tables e below P (T.setTop (mkF m pc Ls (.int x :: st))) := own_go (fun t k => XS.ifYes S.1.here b.1 rfl (pc0 := pc) rfl (hb b.2.2.2.1 hd) rfl hc ho hn k) k'
theorem gIcY (b : OwnB p s m meth c Z own bytes maxL ret nm) (S : OwnS p l e R s m args below meth c Z T h locs cells slots n0 h0 ws fs) {cd : ClassFile.Cond} {x y : Int32} {o : Int} (hd : decode bytes pc = .ok (.if_icmp cd o, 3)) (hc : if_icmp.holds cd x y = true) (n : Nat) (ho : 0 ≤ (pc : Int) + o) (hn : ((pc : Int) + o).toNat = n) (k' : Go p.tables e below P (T.setTop (mkF m n Ls st))) : Go p.tables e below P (T.setTop (mkF m pc Ls (.int y :: .int x :: st))) := own_go (fun t k => XS.icmpYes S.1.here b.1 rfl (pc0 := pc) rfl (hb b.2.2.2.1 hd) rfl hc ho hn k) k'
theorem gIfN (b : OwnB p s m meth c Z own bytes maxL ret nm) (S : OwnS p l e R s m args below meth c Z T h locs cells slots n0 h0 ws fs) {cd : ClassFile.Cond} {x : Int32} {o : Int} (hd : decode bytes pc = .ok (.ifCond cd o, 3)) (hc : ifCond.holds cd x = false) (n : Nat) (hn : pc + 3 = n) (k' : Go p.tables e below P (T.setTop (mkF m n Ls (st)))) : Go p.tables e below P (T.setTop (mkF m pc Ls (.int x :: st))) := by
  subst hn; exact own_go (fun t k => XS.ifNo S.1.here b.1 rfl (hb b.2.2.2.1 hd) rfl hc k) k'
theorem gIcN (b : OwnB p s m meth c Z own bytes maxL ret nm) (S : OwnS p l e R s m args below meth c Z T h locs cells slots n0 h0 ws fs) {cd : ClassFile.Cond} {x y : Int32} {o : Int} (hd : decode bytes pc = .ok (.if_icmp cd o, 3)) (hc : if_icmp.holds cd x y = false) (n : Nat) (hn : pc + 3 = n) (k' : Go p.tables e below P (T.setTop (mkF m n Ls (st)))) : Go p.tables e below P (T.setTop (mkF m pc Ls (.int y :: .int x :: st))) := by
  subst hn; exact own_go (fun t k => XS.icmpNo S.1.here b.1 rfl (hb b.2.2.2.1 hd) rfl hc k) k'
theorem gAc (b : OwnB p s m meth c Z own bytes maxL ret nm) (S : OwnS p l e R s m args below meth c Z T h locs cells slots n0 h0 ws fs) {cd : ACond} {x y : Value} {o : Int} (hd : decode bytes pc = .ok (.if_acmp cd o, 3)) (h1 : x.isRef = true) (h2 : y.isRef = true) (same : Bool) (hq : decide (x = y) = same) (n : Nat) (ho : 0 ≤ (pc : Int) + o) (hn : n = if acV cd same = true then ((pc : Int) + o).toNat else pc + 3) (k' : Go p.tables e below P (T.setTop (mkF m n Ls st))) : Go p.tables e below P (T.setTop (mkF m pc Ls (y :: x :: st))) := own_go (fun t k => Jvm.RoadKit.acmp (g := mkF m pc Ls (y :: x :: st)) S.1 b.1 rfl h1 h2 (pc0 := pc) rfl (hb b.2.2.2.1 hd) rfl hq ho hn k) k'
theorem gNnY (b : OwnB p s m meth c Z own bytes maxL ret nm) (S : OwnS p l e R s m args below meth c Z T h locs cells slots n0 h0 ws fs) {x : Addr} {o : Int} (hd : decode bytes pc = .ok (.ifnonnull o, 3)) (n : Nat) (ho : 0 ≤ (pc : Int) + o) (hn : ((pc : Int) + o).toNat = n) (k' : Go p.tables e below P (T.setTop (mkF m n Ls st))) : Go p.tables e below P (T.setTop (mkF m pc Ls (.ref x :: st))) := own_go (fun t k => XS.ifnonnullYes S.1.here b.1 rfl (pc0 := pc) rfl (hb b.2.2.2.1 hd) rfl ho hn k) k'
theorem gNuY (b : OwnB p s m meth c Z own bytes maxL ret nm) (S : OwnS p l e R s m args below meth c Z T h locs cells slots n0 h0 ws fs) {o : Int} (hd : decode bytes pc = .ok (.ifnull o, 3)) (n : Nat) (ho : 0 ≤ (pc : Int) + o) (hn : ((pc : Int) + o).toNat = n) (k' : Go p.tables e below P (T.setTop (mkF m n Ls st))) : Go p.tables e below P (T.setTop (mkF m pc Ls (.null :: st))) := own_go (fun t k => XS.ifnullYes S.1.here b.1 rfl (pc0 := pc) rfl (hb b.2.2.2.1 hd) rfl ho hn k) k'
theorem gNnN (b : OwnB p s m meth c Z own bytes maxL ret nm) (S : OwnS p l e R s m args below meth c Z T h locs cells slots n0 h0 ws fs) {o : Int} (hd : decode bytes pc = .ok (.ifnonnull o, 3)) (n : Nat) (hn : pc + 3 = n) (k' : Go p.tables e below P (T.setTop (mkF m n Ls (st)))) : Go p.tables e below P (T.setTop (mkF m pc Ls (.null :: st))) := by
  subst hn; exact own_go (fun t k => XS.ifnonnullNo S.1.here b.1 rfl (hb b.2.2.2.1 hd) rfl k) k'
theorem gNuN (b : OwnB p s m meth c Z own bytes maxL ret nm) (S : OwnS p l e R s m args below meth c Z T h locs cells slots n0 h0 ws fs) {x : Addr} {o : Int} (hd : decode bytes pc = .ok (.ifnull o, 3)) (n : Nat) (hn : pc + 3 = n) (k' : Go p.tables e below P (T.setTop (mkF m n Ls (st)))) : Go p.tables e below P (T.setTop (mkF m pc Ls (.ref x :: st))) := by
  subst hn; exact own_go (fun t k => XS.ifnullNo S.1.here b.1 rfl (hb b.2.2.2.1 hd) rfl k) k'
end Sgs
end Jvm.RoadKit
namespace Jvm.RoadKit
open Sem ClassFile Op Lib Jvm.Stand Jvm.Free Jvm.LawKit
section Sgh
variable {p : Program} {l : Launch} {e : Env} {R : Room} {s : State} {m : MethodId} {args : Array Value} {below : List Frame} {meth : Method} {c : Code} {T : State} {locs : List Loc} {cells slots : Nat} {Z : State} {a0 : Array Value} {h h' h0 : Heap} {P : State → Outcome → Prop} {pc n0 : Nat} {Ls l' : Array Slot} {st : List Value} {ws ws' : List Addr} {fs fs' : List (Addr × Option Nat)} {own : String} {bytes : ByteArray} {maxL : Nat} {ret : Option FieldType} {nm : String} {a : Addr}
/-! heap and tables -/
theorem gGf (b : OwnB p s m meth c Z own bytes maxL ret nm) (S : OwnS p l e R s m args below meth c Z T h locs cells slots n0 h0 ws fs) {R0 O n1 d host : String} {index : Nat} (hd : decode bytes pc = .ok (.getfield index, 3)) (w : (Cond.fieldLink own index R0 n1 d).before a0 Z = true ∨ (Cond.fieldLinkNest own index R0 n1 d host).before a0 Z = true) (via : Via Z R0 O n1 d) {v : Value} (F : Fld Z h a O n1 d v) (n : Nat) (hn : pc + 3 = n)
    (k' : ∀ T', OwnS p l e R s m args below meth c Z T' h locs cells slots n0 h0 ws fs → Go p.tables e below P (T'.setTop (mkF m n Ls (v :: st)))) : Go p.tables e below P (T.setTop (mkF m pc Ls (.ref a :: st))) := by
  obtain ⟨T', X', e', s'⟩ := getF S.1 b.1 b.2.1 b.2.2.1 w via S.2.1 F (g := mkF m pc Ls (.ref a :: st)) rfl rfl (hb b.2.2.2.1 hd)
  subst hn
  exact own_go s' (k' T' ⟨X', e', S.2.2⟩)
theorem gGfR (b : OwnB p s m meth c Z own bytes maxL ret nm) (S : OwnS p l e R s m args below meth c Z T h locs cells slots n0 h0 ws fs) {R0 O n1 d : String} {index : Nat} (hd : decode bytes pc = .ok (.getfield index, 3)) (w : (Cond.fieldRef own index R0 n1 d).before a0 Z = true) (via : Via Z R0 O n1 d) {v : Value} (F : Fld Z h a O n1 d v) (n : Nat) (hn : pc + 3 = n)
    (k' : ∀ T', OwnS p l e R s m args below meth c Z T' h locs cells slots n0 h0 ws fs → Go p.tables e below P (T'.setTop (mkF m n Ls (v :: st)))) : Go p.tables e below P (T.setTop (mkF m pc Ls (.ref a :: st))) := by
  obtain ⟨T', X', e', s'⟩ := own_getFR S.1 b.1 b.2.1 b.2.2.1 w via S.2.1 F (g := mkF m pc Ls (.ref a :: st)) rfl rfl (hb b.2.2.2.1 hd)
  subst hn
  exact own_go s' (k' T' ⟨X', e', S.2.2⟩)
theorem gGs (b : OwnB p s m meth c Z own bytes maxL ret nm) (S : OwnS p l e R s m args below meth c Z T h locs cells slots n0 h0 ws fs) {O n1 d : String} {index : Nat} (hd : decode bytes pc = .ok (.getstatic index, 3)) (w : (Cond.fieldLink own index O n1 d).before a0 Z = true) {v : Value} (F : Sta Z Z.heap O n1 d v) (n : Nat) (hn : pc + 3 = n)
    (k' : ∀ T', OwnS p l e R s m args below meth c Z T' h locs cells slots n0 h0 ws fs → Go p.tables e below P (T'.setTop (mkF m n Ls (v :: st)))) : Go p.tables e below P (T.setTop (mkF m pc Ls st)) := by
  obtain ⟨T', X', e', s'⟩ := getS2 (host := "") S.1 b.1 b.2.1 b.2.2.1 (Or.inl w) Via.refl S.2.1 (F.ext S.o.2) (g := mkF m pc Ls st) rfl (hb b.2.2.2.1 hd)
  subst hn
  exact own_go s' (k' T' ⟨X', e', S.2.2⟩)
theorem gPf (b : OwnB p s m meth c Z own bytes maxL ret nm) (S : OwnS p l e R s m args below meth c Z T h locs cells slots n0 h0 ws fs) {R0 O n1 d host C : String} {index kk : Nat} (ty : FieldType) (hd : decode bytes pc = .ok (.putfield index, 3)) (w : (Cond.fieldLink own index R0 n1 d).before a0 Z = true ∨ (Cond.fieldLinkNest own index R0 n1 d host).before a0 Z = true) (via : Via Z R0 O n1 d) {v old : Value} (F : Fld Z h a O n1 d old) (E : Exa Z h a C) (L : (Cond.lays C O n1 d).before a0 Z = true ∨ ((Cond.laysFinal C O n1 d).before a0 Z = true ∧ own = O ∧ meth.name = "<init>")) (wi : (Cond.instantiable C kk).before a0 Z = true)
    (hty : parseFieldDescriptor d = some ty) (hnw : narrow ty v = v) (hf : fits ty v = true) (ge : n0 ≤ a) (mem : (a ∈ ws ∧ (a, some (slotOf Z O n1 d)) ∈ fs) ∨ h0.size ≤ a) (n : Nat) (hn : pc + 3 = n)
    (k' : ∀ T' h', Wr h h' a (slotOf Z O n1 d) v → Fld Z h' a O n1 d v → OwnS p l e R s m args below meth c Z T' h' (locs ++ [⟨a, slotOf Z O n1 d⟩]) cells slots n0 h0 ws fs → Go p.tables e below P (T'.setTop (mkF m n Ls st))) : Go p.tables e below P (T.setTop (mkF m pc Ls (v :: .ref a :: st))) := by
  obtain ⟨T', h', X', e', W', s'⟩ := putF S.1 b.1 b.2.1 b.2.2.1 w via S.2.1 F E L wi hty hnw hf (g := mkF m pc Ls (v :: .ref a :: st)) rfl rfl (hb b.2.2.2.1 hd)
  subst hn
  exact own_go s' (k' T' h' W' (F.same W') ⟨X', e', Fr.snoc X' S.f ge, mem.elim (fun q => Inv.wr S.2.2.2 W' q.1 (Or.inl q.2) ge) (fun q => Inv.wrN S.2.2.2 W' q)⟩)
theorem gPfR (b : OwnB p s m meth c Z own bytes maxL ret nm) (S : OwnS p l e R s m args below meth c Z T h locs cells slots n0 h0 ws fs) {R0 O n1 d C : String} {index kk : Nat} (ty : FieldType) (hd : decode bytes pc = .ok (.putfield index, 3)) (w : (Cond.fieldRef own index R0 n1 d).before a0 Z = true) (via : Via Z R0 O n1 d) {v old : Value} (F : Fld Z h a O n1 d old) (E : Exa Z h a C) (L : (Cond.lays C O n1 d).before a0 Z = true) (wi : (Cond.instantiable C kk).before a0 Z = true)
    (hty : parseFieldDescriptor d = some ty) (hnw : narrow ty v = v) (hf : fits ty v = true) (ge : n0 ≤ a) (mem : (a ∈ ws ∧ (a, some (slotOf Z O n1 d)) ∈ fs) ∨ h0.size ≤ a) (n : Nat) (hn : pc + 3 = n)
    (k' : ∀ T' h', Wr h h' a (slotOf Z O n1 d) v → Fld Z h' a O n1 d v → OwnS p l e R s m args below meth c Z T' h' (locs ++ [⟨a, slotOf Z O n1 d⟩]) cells slots n0 h0 ws fs → Go p.tables e below P (T'.setTop (mkF m n Ls st))) : Go p.tables e below P (T.setTop (mkF m pc Ls (v :: .ref a :: st))) := by
  obtain ⟨T', h', X', e', W', s'⟩ := own_putFR S.1 b.1 b.2.1 b.2.2.1 w via S.2.1 F E L wi hty hnw hf (g := mkF m pc Ls (v :: .ref a :: st)) rfl rfl (hb b.2.2.2.1 hd)
  subst hn
  exact own_go s' (k' T' h' W' (F.same W') ⟨X', e', Fr.snoc X' S.f ge, mem.elim (fun q => Inv.wr S.2.2.2 W' q.1 (Or.inl q.2) ge) (fun q => Inv.wrN S.2.2.2 W' q)⟩)
theorem gCc (b : OwnB p s m meth c Z own bytes maxL ret nm) (S : OwnS p l e R s m args below meth c Z T h locs cells slots n0 h0 ws fs) {K : String} {index : Nat} (hd : decode bytes pc = .ok (.checkcast index, 3)) (w : (Cond.classLink own index K).before a0 Z = true) (F : Ins Z h a K true) (n : Nat) (hn : pc + 3 = n)
    (k' : ∀ T', OwnS p l e R s m args below meth c Z T' h locs cells slots n0 h0 ws fs → Go p.tables e below P (T'.setTop (mkF m n Ls (.ref a :: st)))) : Go p.tables e below P (T.setTop (mkF m pc Ls (.ref a :: st))) := by
  obtain ⟨T', X', e', s'⟩ := castY S.1 b.1 b.2.1 b.2.2.1 w S.2.1 F (g := mkF m pc Ls (.ref a :: st)) rfl rfl (hb b.2.2.2.1 hd)
  subst hn
  exact own_go s' (k' T' ⟨X', e', S.2.2⟩)
theorem gCcN (b : OwnB p s m meth c Z own bytes maxL ret nm) (S : OwnS p l e R s m args below meth c Z T h locs cells slots n0 h0 ws fs) {index : Nat} (hd : decode bytes pc = .ok (.checkcast index, 3)) (n : Nat) (hn : pc + 3 = n) (k' : Go p.tables e below P (T.setTop (mkF m n Ls (.null :: st)))) : Go p.tables e below P (T.setTop (mkF m pc Ls (.null :: st))) := by
  subst hn
  exact own_go (fun t k => S.1.checkcastNull b.1 (g := mkF m pc Ls (.null :: st)) rfl rfl (hb b.2.2.2.1 hd) t k) k'
theorem gNew (b : OwnB p s m meth c Z own bytes maxL ret nm) (S : OwnS p l e R s m args below meth c Z T h locs cells slots n0 h0 ws fs) {C : String} {index nn : Nat} (hd : decode bytes pc = .ok (.new index, 3)) (w : (Cond.classLink own index C).before a0 Z = true) (wi : (Cond.instantiable C nn).before a0 Z = true) (wz : (Cond.initialized C).before a0 Z = true) (hc : cells + 1 ≤ R.cells) (hl : slots + nn ≤ R.slots) (n : Nat) (hn : pc + 3 = n)
    (k' : ∀ T' h' b', h.size ≤ b' → Ext h h' → Exa Z h' b' C → (∀ {O nm d : String} {ty : FieldType}, Laid Z a0 C O nm d → parseFieldDescriptor d = some ty → Fld Z h' b' O nm d (defaultValue ty)) → OwnS p l e R s m args below meth c Z T' h' locs (cells + 1) (slots + nn) n0 h0 ws fs → Go p.tables e below P (T'.setTop (mkF m n Ls (.ref b' :: st)))) : Go p.tables e below P (T.setTop (mkF m pc Ls st)) := by
  obtain ⟨T', h', X', e', E', A', D', -, s'⟩ := newO S.1 b.1 b.2.1 b.2.2.1 w wi wz S.2.1 (g := mkF m pc Ls st) rfl (hb b.2.2.2.1 hd) hc hl
  subst hn
  exact own_go s' (k' T' h' _ (Nat.le_refl _) E' A' D' ⟨X', e', S.f, Inv.ext S.2.2.2 E'⟩)
theorem gNewI (b : OwnB p s m meth c Z own bytes maxL ret nm) (S : OwnS p l e R s m args below meth c Z T h locs cells slots n0 h0 ws fs) {z : Int32} (hd : decode bytes pc = .ok (.newarray .int, 2)) (w : (Cond.arrayClass .int).before a0 Z = true) (hz : ¬ z < 0) (cap : Nat) (hcap : z.toNatClampNeg ≤ cap) (hcap2 : cap * 8 ≤ 536870912) (hc : cells + 1 ≤ R.cells) (hl : slots + cap ≤ R.slots) (n : Nat) (hn : pc + 2 = n)
    (k' : ∀ T' h' b' k, h.size ≤ b' → Ext h h' → Arr Z h' b' (newA k .int z) .int → OwnS p l e R s m args below meth c Z T' h' locs (cells + 1) (slots + cap) n0 h0 ws fs → Go p.tables e below P (T'.setTop (mkF m n Ls (.ref b' :: st)))) : Go p.tables e below P (T.setTop (mkF m pc Ls (.int z :: st))) := by
  obtain ⟨T', h', k, X', e', E', A', s'⟩ := newP S.1 b.1 b.2.1 (aty := .int) w S.2.1 (g := mkF m pc Ls (.int z :: st)) rfl (hb b.2.2.2.1 hd) rfl hz hcap hcap2 hc hl
  subst hn
  exact own_go s' (k' T' h' _ k (Nat.le_refl _) E' A' ⟨X', e', S.f, Inv.ext S.2.2.2 E'⟩)
theorem gNewR (b : OwnB p s m meth c Z own bytes maxL ret nm) (S : OwnS p l e R s m args below meth c Z T h locs cells slots n0 h0 ws fs) {C : String} {index : Nat} {z : Int32} (hd : decode bytes pc = .ok (.anewarray index, 3)) (w1 : (Cond.classLink own index C).before a0 Z = true) (w2 : (Cond.arrayOver (.object C)).before a0 Z = true) (hz : ¬ z < 0) (cap : Nat) (hcap : z.toNatClampNeg ≤ cap) (hcap2 : cap * 8 ≤ 536870912) (hc : cells + 1 ≤ R.cells) (hl : slots + cap ≤ R.slots) (n : Nat) (hn : pc + 3 = n)
    (k' : ∀ T' h' b' k, h.size ≤ b' → Ext h h' → Arr Z h' b' (newA k (.object C) z) (.object C) → Ovr Z k C → OwnS p l e R s m args below meth c Z T' h' locs (cells + 1) (slots + cap) n0 h0 ws fs → Go p.tables e below P (T'.setTop (mkF m n Ls (.ref b' :: st)))) : Go p.tables e below P (T.setTop (mkF m pc Ls (.int z :: st))) := by
  obtain ⟨T', h', k, X', e', E', A', O', s'⟩ := newR S.1 b.1 b.2.1 b.2.2.1 w1 w2 S.2.1 (g := mkF m pc Ls (.int z :: st)) rfl (hb b.2.2.2.1 hd) rfl hz hcap hcap2 hc hl
  subst hn
  exact own_go s' (k' T' h' _ k (Nat.le_refl _) E' A' O' ⟨X', e', S.f, Inv.ext S.2.2.2 E'⟩)
theorem gAast (b : OwnB p s m meth c Z own bytes maxL ret nm) (S : OwnS p l e R s m args below meth c Z T h locs cells slots n0 h0 ws fs) {y : Addr} {k : ClassId} {C : String} {z j : Int32} {vs : List Value} (hd : decode bytes pc = .ok (.aastore, 1)) (V : Arv Z h a k (.object C) z vs .null) (O : Ovr Z k C) (I : Ins Z h y C true) (h1 : ¬ j < 0) (h2 : j < z) (i : Nat) (hi : j.toNatClampNeg = i) (hil : i < vs.length) (ge : n0 ≤ a) (mem : (a ∈ ws ∧ (a, none) ∈ fs) ∨ h0.size ≤ a) (vs' : List Value) (hvs : vs.set i (.ref y) = vs') (n : Nat) (hn : pc + 1 = n)
    (k' : ∀ T' h', Wr h h' a i (.ref y) → Arv Z h' a k (.object C) z vs' .null → OwnS p l e R s m args below meth c Z T' h' (locs ++ [⟨a, i⟩]) cells slots n0 h0 ws fs → Go p.tables e below P (T'.setTop (mkF m n Ls st))) : Go p.tables e below P (T.setTop (mkF m pc Ls (.ref y :: .int j :: .ref a :: st))) := by
  obtain ⟨cl, Ar, q, S1, M, H, G⟩ := V
  obtain ⟨T', h', X', e', W', s'⟩ := stR S.1 b.1 b.2.1 S.2.1 Ar (j := j) (inb_of S1 ⟨h1, h2⟩) rfl (Sto.ofV Ar q O I) (g := mkF m pc Ls (.ref y :: .int j :: .ref a :: st)) rfl rfl (hb b.2.2.2.1 hd)
  subst hn hvs hi
  exact own_go s' (k' T' h' W' (Arv.set Ar q S1 M H G rfl W' _ rfl hil) ⟨X', e', Fr.snoc X' S.f ge, mem.elim (fun q => Inv.wr S.2.2.2 W' q.1 (Or.inr q.2) ge) (fun q => Inv.wrN S.2.2.2 W' q)⟩)
theorem gAald (b : OwnB p s m meth c Z own bytes maxL ret nm) (S : OwnS p l e R s m args below meth c Z T h locs cells slots n0 h0 ws fs) {k : ClassId} {ty : FieldType} {z j : Int32} {vs : List Value} {dv : Value} (hd : decode bytes pc = .ok (.aaload, 1)) (V : Arv Z h a k ty z vs dv) (ht : ty.isReference = true) (h1 : ¬ j < 0) (h2 : j < z) (v : Value) (hv : vs.getD j.toNatClampNeg dv = v) (n : Nat) (hn : pc + 1 = n)
    (k' : Go p.tables e below P (T.setTop (mkF m n Ls (v :: st)))) : Go p.tables e below P (T.setTop (mkF m pc Ls (.int j :: .ref a :: st))) := by
  obtain ⟨cl, Ar, q, S1, M, H, G⟩ := V
  subst hn
  exact own_go (fun t k => S.1.aaload b.1 (j := j) (v := v) (by rw [S.2.1]; exact Ar.1) (State.isArrayOf_alike b.2.1.alike Ar.2.1) ht Ar.2.2 (inb_of S1 ⟨h1, h2⟩) (H.at (inb_of S1 ⟨h1, h2⟩) hv) (g := mkF m pc Ls (.int j :: .ref a :: st)) rfl rfl (hb b.2.2.2.1 hd) t k) k'
theorem gLen (b : OwnB p s m meth c Z own bytes maxL ret nm) (S : OwnS p l e R s m args below meth c Z T h locs cells slots n0 h0 ws fs) {k : ClassId} {ty : FieldType} {z : Int32} {vs : List Value} {dv : Value} (hd : decode bytes pc = .ok (.arraylength, 1)) (V : Arv Z h a k ty z vs dv) (n : Nat) (hn : pc + 1 = n)
    (k' : Go p.tables e below P (T.setTop (mkF m n Ls (.int z :: st)))) : Go p.tables e below P (T.setTop (mkF m pc Ls (.ref a :: st))) := by
  obtain ⟨cl, Ar, -, S1, M, -, -⟩ := V
  subst hn
  exact own_go (fun t k => S.1.arraylength b.1 (by rw [S.2.1]; exact Ar.1) (State.isArrayOf_alike b.2.1.alike Ar.2.1) (g := mkF m pc Ls (.ref a :: st)) rfl rfl (hb b.2.2.2.1 hd) t (by rw [len_of S1 M]; exact k)) k'
theorem gIni (b : OwnB p s m meth c Z own bytes maxL ret nm) (S : OwnS p l e R s m args below meth c Z T h locs cells slots n0 h0 ws fs) {index : Nat} (hd : decode bytes pc = .ok (.invokespecial index, 3)) (w1 : (Cond.methodLink own index Lib.objectInit).before a0 Z = true) (w2 : (Cond.instanceMethod Lib.objectInit).before a0 Z = true) (w3 : (Cond.code Lib.objectInit ⟨#[0xb1]⟩ 1 none).before a0 Z = true) (hsz : Ls.size = maxL) (hf : 1 ≤ R.frames) (W : Nat) (hW : (st.map fun v => v.category).sum ≤ W) (hl : W + 12 ≤ R.locals) (n : Nat) (hn : pc + 3 = n)
    (k' : ∀ T', OwnS p l e R s m args below meth c Z T' h locs cells slots n0 h0 ws fs → Go p.tables e below P (T'.setTop (mkF m n Ls st))) : Go p.tables e below P (T.setTop (mkF m pc Ls (.ref a :: st))) := by
  obtain ⟨T', X', e', s'⟩ := initO S.1 b.1 b.2.1 b.2.2.1 w1 w2 w3 S.2.1 (g := mkF m pc Ls (.ref a :: st)) rfl (hsz.trans b.2.2.2.2.1.symm) rfl (hb b.2.2.2.1 hd) hf (W := W) (by show 2 * 0 + _ ≤ _; omega) hl
  subst hn
  exact own_go s' (k' T' ⟨X', e', S.2.2⟩)
theorem own_dI {C : String} {x : Addr} (D : ∀ {O nm d : String} {ty : FieldType}, Laid Z a0 C O nm d → parseFieldDescriptor d = some ty → Fld Z h x O nm d (defaultValue ty)) {O n d : String} (L : Laid Z a0 C O n d) (q : parseFieldDescriptor d = some .int) : Fld Z h x O n d (.int 0) := D L q
theorem own_dN {C : String} {x : Addr} (D : ∀ {O nm d : String} {ty : FieldType}, Laid Z a0 C O nm d → parseFieldDescriptor d = some ty → Fld Z h x O nm d (defaultValue ty)) {O n d : String} {ty : FieldType} (L : Laid Z a0 C O n d) (q : parseFieldDescriptor d = some ty) (hr : defaultValue ty = .null := by rfl) : Fld Z h x O n d .null := hr ▸ D L q
/-! ends -/
theorem own_end (b : OwnB p s m meth c Z own bytes maxL ret nm) (S : OwnS p l e R s m args below meth c Z T h locs cells slots n0 h0 ws fs) {Q : Option Value → Heap → List Loc → Prop} {A : State} (v : Option Value) (hv : ret = none → v = none) (hst : ∀ fs, (∀ (f : JFrame) (acts : List Action), f.method = m → f.locked = none → f.entered = [] → (doReturn e (T.setTop f) acts v).1 = T.setFrames fs) → Steps p.tables e below A (T.setFrames fs)) (hc : cells ≤ R.cells) (hl : slots ≤ R.slots) (q : Q v h locs) : Go p.tables e below (Fin2 s below R Q) A := by
  obtain ⟨fs, hr, hrun, hended, hW, hsame⟩ := S.1.leave (v := v) (fun q => hv (b.2.2.2.2.2.1.symm.trans q)) b.2.2.2.2.2.2.2
  refine ⟨_, _, hst fs hr, hrun, hended, _, _, rfl, ?_, ⟨_, rfl⟩, hW, hsame.mono hc hl⟩
  show Q v T.heap locs
  rw [S.2.1]
  exact q
theorem gRetV (b : OwnB p s m meth c Z own bytes maxL none nm) (S : OwnS p l e R s m args below meth c Z T h locs cells slots n0 h0 ws fs) {Q : Option Value → Heap → List Loc → Prop} (hd : decode bytes pc = .ok (.return_, 1)) (hc : cells ≤ R.cells) (hl : slots ≤ R.slots) (q : Q none h locs) : Go p.tables e below (Fin2 s below R Q) (T.setTop (mkF m pc Ls [])) :=
  own_end b S none (fun _ => rfl) (fun fs hr => S.1.returnOut b.1 b.2.2.2.2.2.1 (hb b.2.2.2.1 hd) hr) hc hl q
theorem gRetI (b : OwnB p s m meth c Z own bytes maxL (some .int) nm) (S : OwnS p l e R s m args below meth c Z T h locs cells slots n0 h0 ws fs) {z : Int32} {Q : Option Value → Heap → List Loc → Prop} (hd : decode bytes pc = .ok (.ireturn, 1)) (hc : cells ≤ R.cells) (hl : slots ≤ R.slots) (q : Q (some (.int z)) h locs) : Go p.tables e below (Fin2 s below R Q) (T.setTop (mkF m pc Ls (.int z :: st))) :=
  own_end b S _ nofun (fun fs hr => retI S.1 b.1 b.2.2.2.2.2.1 (hb b.2.2.2.1 hd) hr) hc hl q
theorem gRetZ (b : OwnB p s m meth c Z own bytes maxL (some .boolean) nm) (S : OwnS p l e R s m args below meth c Z T h locs cells slots n0 h0 ws fs) {z : Int32} {Q : Option Value → Heap → List Loc → Prop} (hd : decode bytes pc = .ok (.ireturn, 1)) (hc : cells ≤ R.cells) (hl : slots ≤ R.slots) (q : Q (some (.int (nar .boolean z))) h locs) : Go p.tables e below (Fin2 s below R Q) (T.setTop (mkF m pc Ls (.int z :: st))) :=
  own_end b S _ nofun (fun fs hr => retN S.1 b.1 b.2.2.2.2.2.1 (Or.inl rfl) (hb b.2.2.2.1 hd) hr) hc hl q
theorem gRetA {ty : FieldType} (b : OwnB p s m meth c Z own bytes maxL (some ty) nm) (S : OwnS p l e R s m args below meth c Z T h locs cells slots n0 h0 ws fs) {v : Value} {Q : Option Value → Heap → List Loc → Prop} (hd : decode bytes pc = .ok (.areturn, 1)) (ht : ty.isReference = true) (hr : v.isRef = true) (hn : narrow ty v = v) (hc : cells ≤ R.cells) (hl : slots ≤ R.slots) (q : Q (some v) h locs) : Go p.tables e below (Fin2 s below R Q) (T.setTop (mkF m pc Ls (v :: st))) :=
  own_end b S _ nofun (fun fs hl => retOut S.1 b.1 b.2.2.2.2.2.1 hn (Or.inr (Or.inr (Or.inr (Or.inr ⟨rfl, ht, hr⟩)))) (hb b.2.2.2.1 hd) hl) hc hl q
end Sgh
end Jvm.RoadKit
namespace Jvm.RoadKit
open Sem ClassFile Op Lib Jvm.Stand Jvm.Free Jvm.LawKit
section Sgc
variable {p : Program} {l : Launch} {e : Env} {R : Room} {s : State} {m : MethodId} {args : Array Value} {below : List Frame} {meth : Method} {c : Code} {T : State} {locs : List Loc} {cells slots : Nat} {Z : State} {a0 : Array Value} {h h' h0 : Heap} {P : State → Outcome → Prop} {pc n0 : Nat} {Ls l' : Array Slot} {st : List Value} {ws ws' : List Addr} {fs fs' : List (Addr × Option Nat)} {own : String} {bytes : ByteArray} {maxL : Nat} {ret : Option FieldType} {nm : String} {a : Addr}
/-- the room that a call asks -/
def rOk (R rm : Room) (W mx cells slots : Nat) : Bool := Nat.ble (rm.frames + 1) R.frames && (Nat.ble (W + (mx + 11) + rm.locals) R.locals && (Nat.ble (cells + rm.cells) R.cells && Nat.ble (slots + rm.slots) R.slots))
theorem rOk.spec {rm : Room} {W mx : Nat} (q : rOk R rm W mx cells slots = true) : rm.frames + 1 ≤ R.frames ∧ W + (mx + 11) + rm.locals ≤ R.locals ∧ cells + rm.cells ≤ R.cells ∧ slots + rm.slots ≤ R.slots := by
  simp only [rOk, Bool.and_eq_true] at q
  exact ⟨own_le q.1, own_le q.2.1, own_le q.2.2.1, own_le q.2.2.2⟩
theorem mI {α : Type} {x : α} {L : List α} (i : Nat) (q : L[i]? = some x) : x ∈ L := List.mem_of_getElem? q
theorem OwnS.call (S : OwnS p l e R s m args below meth c Z T h locs cells slots n0 h0 ws fs) {T' : State} {L : List Loc} {k n : Nat} (X : Stand p l e R s m args below meth c T' (locs ++ L) k n) (N : Fr n0 L) (K : Keep h T'.heap ws') (F : KeepF h T'.heap fs') (q : ∀ x ∈ ws', x ∈ ws ∨ h0.size ≤ x) (r : ∀ y ∈ fs', y ∈ fs ∨ (y.1, none) ∈ fs ∨ h0.size ≤ y.1) (g : ∀ x ∈ ws', n0 ≤ x) : OwnS p l e R s m args below meth c Z T' T'.heap (locs ++ L) k n n0 h0 ws fs :=
  ⟨X, rfl, Fr.app S.f N, Inv.keep S.2.2.2 K F q r g⟩
theorem OwnS.same (S : OwnS p l e R s m args below meth c Z T h locs cells slots n0 h0 ws fs) {T' : State} {L : List Loc} {k n : Nat} (X : Stand p l e R s m args below meth c T' (locs ++ L) k n) (N : Fr n0 L) (e' : T'.heap = h) : OwnS p l e R s m args below meth c Z T' h (locs ++ L) k n n0 h0 ws fs :=
  ⟨X, e', Fr.app S.f N, S.2.2.2⟩
theorem own_after {rm : Room} {Q : Option Value → Heap → List Loc → Prop} {stk rest : List Value} {n : Nat} (H : ∃ (v : Option Value) (vm₁ : Vm) (B : Pt), s.WarmedH vm₁ ∧ Stand p l e R s m args below meth c B.U B.locs B.cells B.slots ∧ (∃ L, Q v B.U.heap L ∧ B.locs = locs ++ L ∧ B.cells = cells + rm.cells ∧ B.slots = slots + rm.slots) ∧ Steps p.tables e below (T.setTop (mkF m pc Ls stk)) (B.U.setTop (mkF m n Ls (v.toList ++ rest))))
    (k' : ∀ T' L v, Stand p l e R s m args below meth c T' (locs ++ L) (cells + rm.cells) (slots + rm.slots) → Q v T'.heap L → Go p.tables e below P (T'.setTop (mkF m n Ls (v.toList ++ rest)))) : Go p.tables e below P (T.setTop (mkF m pc Ls stk)) := by
  obtain ⟨v, vm, ⟨U, L', c', s'⟩, -, X, ⟨L, hQ, e1, e2, e3⟩, hs⟩ := H
  dsimp only [Pt.U, Pt.locs, Pt.cells, Pt.slots] at X hQ e1 e2 e3 hs
  subst e1 e2 e3
  exact own_go (fun t k => hs.trans k) (k' U L v X hQ)

theorem cV (b : OwnB p s m meth c Z own bytes maxL ret nm) (S : OwnS p l e R s m args below meth c Z T h locs cells slots n0 h0 ws fs) {index mx : Nat} {rt : Option FieldType} {bs : ByteArray} {rm : Room} {as : List Value} {stk : List Value} {Q : Option Value → Heap → List Loc → Prop} {C : String} {y : MethodName} (hd : decode bytes pc = .ok (.invokevirtual index, 3)) (wl : (Cond.methodLink own index y).before a0 Z = true) (wd : (Cond.declares y).before a0 Z = true) (wsel : (Cond.selects C y y).before a0 Z = true) (wi : (Cond.instanceMethod y).before a0 Z = true) (wz : (Cond.initialized y.cls).before a0 Z = true) (wc : (Jvm.Cond.code y bs mx rt).before a0 Z = true) (M : OwnM l y (Jvm.Cond.code y bs mx rt) rm (Value.ref a :: as).toArray Z h Q) (E : Exa Z h a C) (hy : y.cls ≠ "java/lang/invoke/MethodHandle" ∧ y.cls ≠ "java/lang/invoke/VarHandle") (hlen : ∀ sig, parseMethodDescriptor y.desc = some sig → as.length = sig.parameters.length) (hsz : Ls.size = maxL) (rest : List Value) (hs : stk = as.reverse ++ .ref a :: rest) (W : Nat) (hW : (rest.map fun v => v.category).sum ≤ W) (hr : rOk R rm W mx cells slots = true) (n : Nat) (hn : pc + 3 = n)
    (k' : ∀ T' L v, Stand p l e R s m args below meth c T' (locs ++ L) (cells + rm.cells) (slots + rm.slots) → Q v T'.heap L → Go p.tables e below P (T'.setTop (mkF m n Ls (v.toList ++ rest)))) : Go p.tables e below P (T.setTop (mkF m pc Ls stk)) := by
  obtain ⟨r1, r2, r3, r4⟩ := rOk.spec hr
  have hx := b.1
  have hZ := b.2.1
  have hown := b.2.2.1
  obtain ⟨cq, kq, qa, qb, qc⟩ := isOf hZ S.2.1 E
  subst hn
  refine own_after (rm := rm) (Q := Q) ?_ k'
  exact S.1.virtualBack hx hown (mvT hZ wl) (mvT hZ wd) (notFace_of_selects (args := #[]) (mvT hZ wsel)) (mvT hZ wsel) (mvT hZ wi) hy (backOf (W := W) M hZ wc wz r1 r2) qa qc (g := mkF m pc Ls stk) rfl (hsz.trans b.2.2.2.2.1.symm) (Steps.refl _) hlen hs (by show 2 * 0 + _ ≤ _; omega) (hb b.2.2.2.1 hd) (fun _ _ => ⟨rfl, S.2.1, r3, r4⟩)
theorem cVW (b : OwnB p s m meth c Z own bytes maxL ret nm) (S : OwnS p l e R s m args below meth c Z T h locs cells slots n0 h0 ws fs) {index mx : Nat} {rt : Option FieldType} {bs : ByteArray} {rm : Room} {as : List Value} {stk : List Value} {Q : Option Value → Heap → List Loc → Prop} {C : String} {y : MethodName} {hs' : List (Nat × Nat × Nat × Nat)} (hd : decode bytes pc = .ok (.invokevirtual index, 3)) (wl : (Cond.methodLink own index y).before a0 Z = true) (wd : (Cond.declares y).before a0 Z = true) (wsel : (Cond.selects C y y).before a0 Z = true) (wi : (Cond.instanceMethod y).before a0 Z = true) (wz : (Cond.initialized y.cls).before a0 Z = true) (wc : (Jvm.Cond.codeWith y bs mx rt hs').before a0 Z = true) (M : OwnM l y (Jvm.Cond.codeWith y bs mx rt hs') rm (Value.ref a :: as).toArray Z h Q) (E : Exa Z h a C) (hy : y.cls ≠ "java/lang/invoke/MethodHandle" ∧ y.cls ≠ "java/lang/invoke/VarHandle") (hlen : ∀ sig, parseMethodDescriptor y.desc = some sig → as.length = sig.parameters.length) (hsz : Ls.size = maxL) (rest : List Value) (hs : stk = as.reverse ++ .ref a :: rest) (W : Nat) (hW : (rest.map fun v => v.category).sum ≤ W) (hr : rOk R rm W mx cells slots = true) (n : Nat) (hn : pc + 3 = n)
    (k' : ∀ T' L v, Stand p l e R s m args below meth c T' (locs ++ L) (cells + rm.cells) (slots + rm.slots) → Q v T'.heap L → Go p.tables e below P (T'.setTop (mkF m n Ls (v.toList ++ rest)))) : Go p.tables e below P (T.setTop (mkF m pc Ls stk)) := by
  obtain ⟨r1, r2, r3, r4⟩ := rOk.spec hr
  have hx := b.1
  have hZ := b.2.1
  have hown := b.2.2.1
  obtain ⟨cq, kq, qa, qb, qc⟩ := isOf hZ S.2.1 E
  subst hn
  refine own_after (rm := rm) (Q := Q) ?_ k'
  exact S.1.virtualBack hx hown (mvT hZ wl) (mvT hZ wd) (notFace_of_selects (args := #[]) (mvT hZ wsel)) (mvT hZ wsel) (mvT hZ wi) hy (backOfWith (W := W) M hZ wc wz r1 r2) qa qc (g := mkF m pc Ls stk) rfl (hsz.trans b.2.2.2.2.1.symm) (Steps.refl _) hlen hs (by show 2 * 0 + _ ≤ _; omega) (hb b.2.2.2.1 hd) (fun _ _ => ⟨rfl, S.2.1, r3, r4⟩)
theorem cU (b : OwnB p s m meth c Z own bytes maxL ret nm) (S : OwnS p l e R s m args below meth c Z T h locs cells slots n0 h0 ws fs) {index mx : Nat} {rt : Option FieldType} {bs : ByteArray} {rm : Room} {as : List Value} {stk : List Value} {Q : Option Value → Heap → List Loc → Prop} {C owner : String} {x y : MethodName} (hd : decode bytes pc = .ok (.invokevirtual index, 3)) (wl : (Cond.methodLink own index x).before a0 Z = true) (wsm : (Cond.sameMethod x.cls owner x.name x.desc).before a0 Z = true) (wd : (Cond.declares ⟨owner, x.name, x.desc⟩).before a0 Z = true) (wsel : (Cond.selects C x y).before a0 Z = true) (wi : (Cond.instanceMethod y).before a0 Z = true) (wz : (Cond.initialized y.cls).before a0 Z = true) (wc : (Jvm.Cond.code y bs mx rt).before a0 Z = true) (M : OwnM l y (Jvm.Cond.code y bs mx rt) rm (Value.ref a :: as).toArray Z h Q) (E : Exa Z h a C) (hy : owner ≠ "java/lang/invoke/MethodHandle" ∧ owner ≠ "java/lang/invoke/VarHandle") (hlen : ∀ sig, parseMethodDescriptor x.desc = some sig → as.length = sig.parameters.length) (hsz : Ls.size = maxL) (rest : List Value) (hs : stk = as.reverse ++ .ref a :: rest) (W : Nat) (hW : (rest.map fun v => v.category).sum ≤ W) (hr : rOk R rm W mx cells slots = true) (n : Nat) (hn : pc + 3 = n)
    (k' : ∀ T' L v, Stand p l e R s m args below meth c T' (locs ++ L) (cells + rm.cells) (slots + rm.slots) → Q v T'.heap L → Go p.tables e below P (T'.setTop (mkF m n Ls (v.toList ++ rest)))) : Go p.tables e below P (T.setTop (mkF m pc Ls stk)) := by
  obtain ⟨r1, r2, r3, r4⟩ := rOk.spec hr
  have hx := b.1
  have hZ := b.2.1
  have hown := b.2.2.1
  obtain ⟨cq, kq, qa, qb, qc⟩ := isOf hZ S.2.1 E
  subst hn
  refine own_after (rm := rm) (Q := Q) ?_ k'
  exact S.1.virtualBackUp hx hown (mvT hZ wl) (mvT hZ wsm) (mvT hZ wd) hy (mvT hZ wsel) (mvT hZ wi) (backOf (W := W) M hZ wc wz r1 r2) qa qc (g := mkF m pc Ls stk) rfl (hsz.trans b.2.2.2.2.1.symm) (Steps.refl _) hlen hs (by show 2 * 0 + _ ≤ _; omega) (hb b.2.2.2.1 hd) (fun _ _ => ⟨rfl, S.2.1, r3, r4⟩)
theorem cI (b : OwnB p s m meth c Z own bytes maxL ret nm) (S : OwnS p l e R s m args below meth c Z T h locs cells slots n0 h0 ws fs) {index mx : Nat} {rt : Option FieldType} {bs : ByteArray} {rm : Room} {as : List Value} {stk : List Value} {Q : Option Value → Heap → List Loc → Prop} {C : String} {xi y : MethodName} {cnt : Nat} (hd : decode bytes pc = .ok (.invokeinterface index cnt, 5)) (wl : (Cond.methodLink own index xi).before a0 Z = true) (wd : (Cond.declares xi).before a0 Z = true) (wim : ∀ {s : State} {args : Array Value}, Z.Warmed39 s.vm → (Cond.interfaceMethod xi.cls xi.cls xi.name xi.desc).before args s = true) (wsel : (Cond.selects C xi y).before a0 Z = true) (wi : (Cond.instanceMethod y).before a0 Z = true) (wp : (Cond.publicMethod y).before a0 Z = true) (wu : (Cond.unhidden C xi.name xi.desc).before a0 Z = true) (wca : (Cond.castable C xi.cls).before a0 Z = true) (wz : (Cond.initialized y.cls).before a0 Z = true) (wc : (Jvm.Cond.code y bs mx rt).before a0 Z = true) (M : OwnM l y (Jvm.Cond.code y bs mx rt) rm (Value.ref a :: as).toArray Z h Q) (E : Exa Z h a C) (hy : xi.cls ≠ "java/lang/invoke/MethodHandle" ∧ xi.cls ≠ "java/lang/invoke/VarHandle") (hlen : ∀ sig, parseMethodDescriptor xi.desc = some sig → as.length = sig.parameters.length) (hsz : Ls.size = maxL) (rest : List Value) (hs : stk = as.reverse ++ .ref a :: rest) (W : Nat) (hW : (rest.map fun v => v.category).sum ≤ W) (hr : rOk R rm W mx cells slots = true) (n : Nat) (hn : pc + 5 = n)
    (k' : ∀ T' L v, Stand p l e R s m args below meth c T' (locs ++ L) (cells + rm.cells) (slots + rm.slots) → Q v T'.heap L → Go p.tables e below P (T'.setTop (mkF m n Ls (v.toList ++ rest)))) : Go p.tables e below P (T.setTop (mkF m pc Ls stk)) := by
  obtain ⟨r1, r2, r3, r4⟩ := rOk.spec hr
  have hx := b.1
  have hZ := b.2.1
  have hown := b.2.2.1
  obtain ⟨cq, kq, qa, qb, qc⟩ := isOf hZ S.2.1 E
  subst hn
  refine own_after (rm := rm) (Q := Q) ?_ k'
  exact S.1.interfaceBack hx hown (mvT hZ wl) (mvT hZ wd) (wim hZ) (mvT hZ wsel) (mvT hZ wi) (mvT hZ wp) (mvT hZ wu) (mvT hZ wca) hy (backOf (W := W) M hZ wc wz r1 r2) qa qb qc (g := mkF m pc Ls stk) rfl (hsz.trans b.2.2.2.2.1.symm) (Steps.refl _) hlen hs (by show 2 * 0 + _ ≤ _; omega) (hb b.2.2.2.1 hd) (fun _ _ => ⟨rfl, S.2.1, r3, r4⟩)
theorem cP (b : OwnB p s m meth c Z own bytes maxL ret nm) (S : OwnS p l e R s m args below meth c Z T h locs cells slots n0 h0 ws fs) {index mx : Nat} {rt : Option FieldType} {bs : ByteArray} {rm : Room} {as : List Value} {stk : List Value} {Q : Option Value → Heap → List Loc → Prop} {C : String} {y : MethodName} (hd : decode bytes pc = .ok (.invokevirtual index, 3)) (wl : (Cond.methodLink own index y).before a0 Z = true) (wi : (Cond.instanceMethod y).before a0 Z = true) (hsel : ∀ {s : State} {args : Array Value}, Z.Warmed39 s.vm → (Cond.selects y.cls y y).before args s = true) (wp : (Cond.privateMethod y).before a0 Z = true) (wz : (Cond.initialized y.cls).before a0 Z = true) (wc : (Jvm.Cond.code y bs mx rt).before a0 Z = true) (M : OwnM l y (Jvm.Cond.code y bs mx rt) rm (Value.ref a :: as).toArray Z h Q) (E : Exa Z h a C) (hy : y.cls ≠ "java/lang/invoke/MethodHandle" ∧ y.cls ≠ "java/lang/invoke/VarHandle") (hlen : ∀ sig, parseMethodDescriptor y.desc = some sig → as.length = sig.parameters.length) (hsz : Ls.size = maxL) (rest : List Value) (hs : stk = as.reverse ++ .ref a :: rest) (W : Nat) (hW : (rest.map fun v => v.category).sum ≤ W) (hr : rOk R rm W mx cells slots = true) (n : Nat) (hn : pc + 3 = n)
    (k' : ∀ T' L v, Stand p l e R s m args below meth c T' (locs ++ L) (cells + rm.cells) (slots + rm.slots) → Q v T'.heap L → Go p.tables e below P (T'.setTop (mkF m n Ls (v.toList ++ rest)))) : Go p.tables e below P (T.setTop (mkF m pc Ls stk)) := by
  obtain ⟨r1, r2, r3, r4⟩ := rOk.spec hr
  have hx := b.1
  have hZ := b.2.1
  have hown := b.2.2.1
  obtain ⟨cq, qa, qb⟩ := E.cell
  subst hn
  refine own_after (rm := rm) (Q := Q) ?_ k'
  exact S.1.privateBack hx hown (mvT hZ wl) (mvT hZ wi) (hsel hZ) (Cond.privateMethod_at (mvP hZ wp (args := #[]))) (mvT hZ wc) hy (backOf (W := W) M hZ wc wz r1 r2) (g := mkF m pc Ls stk) rfl (hsz.trans b.2.2.2.2.1.symm) (Steps.refl _) (by rw [S.2.1]; exact qa) qb hlen hs (by show 2 * 0 + _ ≤ _; omega) (hb b.2.2.2.1 hd) (fun _ _ => ⟨rfl, S.2.1, r3, r4⟩)
theorem cN (b : OwnB p s m meth c Z own bytes maxL ret nm) (S : OwnS p l e R s m args below meth c Z T h locs cells slots n0 h0 ws fs) {index mx : Nat} {bs : ByteArray} {rm : Room} {as : List Value} {stk : List Value} {Q : Option Value → Heap → List Loc → Prop} {y : MethodName} (hd : decode bytes pc = .ok (.invokespecial index, 3)) (wl : (Cond.methodLink own index y).before a0 Z = true) (wi : (Cond.instanceMethod y).before a0 Z = true) (wz : (Cond.initialized y.cls).before a0 Z = true) (wc : (Jvm.Cond.code y bs mx none).before a0 Z = true) (M : OwnM l y (Jvm.Cond.code y bs mx none) rm (Value.ref a :: as).toArray Z h Q) (h1 : y.name = "<init>") (hy : y.cls ≠ "java/lang/invoke/MethodHandle" ∧ y.cls ≠ "java/lang/invoke/VarHandle") (hlen : ∀ sig, parseMethodDescriptor y.desc = some sig → as.length = sig.parameters.length) (hsz : Ls.size = maxL) (rest : List Value) (hs : stk = as.reverse ++ .ref a :: rest) (W : Nat) (hW : (rest.map fun v => v.category).sum ≤ W) (hr : rOk R rm W mx cells slots = true) (n : Nat) (hn : pc + 3 = n)
    (k' : ∀ T' L v, Stand p l e R s m args below meth c T' (locs ++ L) (cells + rm.cells) (slots + rm.slots) → Q v T'.heap L → Go p.tables e below P (T'.setTop (mkF m n Ls (v.toList ++ rest)))) : Go p.tables e below P (T.setTop (mkF m pc Ls stk)) := by
  obtain ⟨r1, r2, r3, r4⟩ := rOk.spec hr
  have hx := b.1
  have hZ := b.2.1
  have hown := b.2.2.1
  subst hn
  refine own_after (rm := rm) (Q := Q) ?_ k'
  exact S.1.specialBack hx h1 hown (mvT hZ wl) (mvT hZ wi) (mvT hZ wc) hy (backOf (W := W) M hZ wc wz r1 r2) (g := mkF m pc Ls stk) rfl (hsz.trans b.2.2.2.2.1.symm) (Steps.refl _) hlen hs (by show 2 * 0 + _ ≤ _; omega) (hb b.2.2.2.1 hd) (fun _ _ => ⟨rfl, S.2.1, r3, r4⟩)
theorem cNR (b : OwnB p s m meth c Z own bytes maxL ret nm) (S : OwnS p l e R s m args below meth c Z T h locs cells slots n0 h0 ws fs) {index mx : Nat} {bs : ByteArray} {rm : Room} {as : List Value} {stk : List Value} {Q : Option Value → Heap → List Loc → Prop} {y : MethodName} (hd : decode bytes pc = .ok (.invokespecial index, 3)) (wl : (Cond.methodRef own index y).before a0 Z = true) (wi : (Cond.instanceMethod y).before a0 Z = true) (wz : (Cond.initialized y.cls).before a0 Z = true) (wc : (Jvm.Cond.code y bs mx none).before a0 Z = true) (M : OwnM l y (Jvm.Cond.code y bs mx none) rm (Value.ref a :: as).toArray Z h Q) (h1 : y.name = "<init>") (hy : y.cls ≠ "java/lang/invoke/MethodHandle" ∧ y.cls ≠ "java/lang/invoke/VarHandle") (hlen : ∀ sig, parseMethodDescriptor y.desc = some sig → as.length = sig.parameters.length) (hsz : Ls.size = maxL) (rest : List Value) (hs : stk = as.reverse ++ .ref a :: rest) (W : Nat) (hW : (rest.map fun v => v.category).sum ≤ W) (hr : rOk R rm W mx cells slots = true) (n : Nat) (hn : pc + 3 = n)
    (k' : ∀ T' L v, Stand p l e R s m args below meth c T' (locs ++ L) (cells + rm.cells) (slots + rm.slots) → Q v T'.heap L → Go p.tables e below P (T'.setTop (mkF m n Ls (v.toList ++ rest)))) : Go p.tables e below P (T.setTop (mkF m pc Ls stk)) := by
  obtain ⟨r1, r2, r3, r4⟩ := rOk.spec hr
  have hx := b.1
  have hZ := b.2.1
  have hown := b.2.2.1
  subst hn
  refine own_after (rm := rm) (Q := Q) ?_ k'
  exact own_specialR S.1 hx h1 hZ hown wl (mvT hZ wi) (mvT hZ wc) hy (backOf (W := W) M hZ wc wz r1 r2) (g := mkF m pc Ls stk) rfl (hsz.trans b.2.2.2.2.1.symm) (Steps.refl _) hlen hs (by show 2 * 0 + _ ≤ _; omega) (hb b.2.2.2.1 hd) (fun _ _ => ⟨rfl, S.2.1, r3, r4⟩)
theorem cS (b : OwnB p s m meth c Z own bytes maxL ret nm) (S : OwnS p l e R s m args below meth c Z T h locs cells slots n0 h0 ws fs) {index mx : Nat} {rt : Option FieldType} {bs : ByteArray} {rm : Room} {as : List Value} {stk : List Value} {Q : Option Value → Heap → List Loc → Prop} {y : MethodName} (hd : decode bytes pc = .ok (.invokestatic index, 3)) (wl : (Cond.methodLink own index y).before a0 Z = true) (wst : (Cond.static y).before a0 Z = true) (wz : (Cond.initialized y.cls).before a0 Z = true) (wc : (Jvm.Cond.code y bs mx rt).before a0 Z = true) (M : OwnM l y (Jvm.Cond.code y bs mx rt) rm as.toArray Z h Q) (hy : y.cls ≠ "java/lang/invoke/MethodHandle" ∧ y.cls ≠ "java/lang/invoke/VarHandle") (hlen : ∀ sig, parseMethodDescriptor y.desc = some sig → as.length = sig.parameters.length) (hsz : Ls.size = maxL) (rest : List Value) (hs : stk = as.reverse ++ rest) (W : Nat) (hW : (rest.map fun v => v.category).sum ≤ W) (hr : rOk R rm W mx cells slots = true) (n : Nat) (hn : pc + 3 = n)
    (k' : ∀ T' L v, Stand p l e R s m args below meth c T' (locs ++ L) (cells + rm.cells) (slots + rm.slots) → Q v T'.heap L → Go p.tables e below P (T'.setTop (mkF m n Ls (v.toList ++ rest)))) : Go p.tables e below P (T.setTop (mkF m pc Ls stk)) := by
  obtain ⟨r1, r2, r3, r4⟩ := rOk.spec hr
  have hx := b.1
  have hZ := b.2.1
  have hown := b.2.2.1
  subst hn
  refine own_after (rm := rm) (Q := Q) ?_ k'
  exact (by
    obtain ⟨v, vm, B, q1, q2, q3, q4⟩ := Jvm.LawKit.callS S.1 hx hown (mvT hZ wl) (mvT hZ wst) (mvT hZ wz) (mvT hZ wc) hy (backOf (W := W) M hZ wc wz r1 r2) (g := mkF m pc Ls stk) rfl (hsz.trans b.2.2.2.2.1.symm) hlen hs (by show 2 * 0 + _ ≤ _; omega) (hb b.2.2.2.1 hd) (fun _ _ => ⟨rfl, S.2.1, r3, r4⟩)
    exact ⟨v, vm, B, q1, q2, q3, q4 _ (Steps.refl _)⟩)
theorem cSU (b : OwnB p s m meth c Z own bytes maxL ret nm) (S : OwnS p l e R s m args below meth c Z T h locs cells slots n0 h0 ws fs) {index mx : Nat} {rt : Option FieldType} {bs : ByteArray} {rm : Room} {as : List Value} {stk : List Value} {Q : Option Value → Heap → List Loc → Prop} {owner : String} {x : MethodName} (hd : decode bytes pc = .ok (.invokestatic index, 3)) (wl : (Cond.methodLink own index x).before a0 Z = true) (wsm : (Cond.sameMethod x.cls owner x.name x.desc).before a0 Z = true) (wst : (Cond.static ⟨owner, x.name, x.desc⟩).before a0 Z = true) (wz : (Cond.initialized (⟨owner, x.name, x.desc⟩ : MethodName).cls).before a0 Z = true) (wc : (Jvm.Cond.code ⟨owner, x.name, x.desc⟩ bs mx rt).before a0 Z = true) (M : OwnM l (⟨owner, x.name, x.desc⟩ : MethodName) (Jvm.Cond.code ⟨owner, x.name, x.desc⟩ bs mx rt) rm as.toArray Z h Q) (hy : owner ≠ "java/lang/invoke/MethodHandle" ∧ owner ≠ "java/lang/invoke/VarHandle") (hlen : ∀ sig, parseMethodDescriptor x.desc = some sig → as.length = sig.parameters.length) (hsz : Ls.size = maxL) (rest : List Value) (hs : stk = as.reverse ++ rest) (W : Nat) (hW : (rest.map fun v => v.category).sum ≤ W) (hr : rOk R rm W mx cells slots = true) (n : Nat) (hn : pc + 3 = n)
    (k' : ∀ T' L v, Stand p l e R s m args below meth c T' (locs ++ L) (cells + rm.cells) (slots + rm.slots) → Q v T'.heap L → Go p.tables e below P (T'.setTop (mkF m n Ls (v.toList ++ rest)))) : Go p.tables e below P (T.setTop (mkF m pc Ls stk)) := by
  obtain ⟨r1, r2, r3, r4⟩ := rOk.spec hr
  have hx := b.1
  have hZ := b.2.1
  have hown := b.2.2.1
  subst hn
  refine own_after (rm := rm) (Q := Q) ?_ k'
  exact (by
    obtain ⟨v, vm, B, q1, q2, q3, q4⟩ := own_callSU S.1 hx hown (mvT hZ wl) (mvT hZ wsm) (mvT hZ wst) (mvT hZ wz) (mvT hZ wc) hy (backOf (W := W) M hZ wc wz r1 r2) (g := mkF m pc Ls stk) rfl (hsz.trans b.2.2.2.2.1.symm) hlen hs (by show 2 * 0 + _ ≤ _; omega) (hb b.2.2.2.1 hd) (fun _ _ => ⟨rfl, S.2.1, r3, r4⟩)
    exact ⟨v, vm, B, q1, q2, q3, q4 _ (Steps.refl _)⟩)
end Sgc
end Jvm.RoadKit
namespace Jvm.Pilot.@@N@@
open Jvm Jvm.ClassFile Sem Op Lib Jvm.Free Jvm.Stand Jvm.LawKit Jvm.RoadKit Bundle Jvm.Pilot.@@N@@.Jvm.D
theorem pd_0 : parseMethodDescriptor "()V" = some ⟨[], none⟩ := by decide +kernel
theorem pd_1 : parseMethodDescriptor "(Lcom/example/graphwarden/graphwarden/partition/OrderedPartition;Ljava/lang/Object;)V" = some ⟨[(.object "com/example/graphwarden/graphwarden/partition/OrderedPartition"), (.object "java/lang/Object")], none⟩ := by decide +kernel
theorem pd_2 : parseMethodDescriptor "(II)I" = some ⟨[.int, .int], some .int⟩ := by decide +kernel
theorem pd_3 : parseMethodDescriptor "(I)[Ljava/lang/Object;" = some ⟨[.int], some (.array (.object "java/lang/Object"))⟩ := by decide +kernel
theorem pd_4 : parseMethodDescriptor "()[Ljava/lang/Object;" = some ⟨[], some (.array (.object "java/lang/Object"))⟩ := by decide +kernel
theorem pd_5 : parseMethodDescriptor "(Ljava/lang/Object;[Ljava/lang/Object;I)V" = some ⟨[(.object "java/lang/Object"), (.array (.object "java/lang/Object")), .int], none⟩ := by decide +kernel
theorem pd_6 : parseMethodDescriptor "(Ljava/lang/Object;)Z" = some ⟨[(.object "java/lang/Object")], some .boolean⟩ := by decide +kernel
theorem pd_7 : parseMethodDescriptor "()I" = some ⟨[], some .int⟩ := by decide +kernel
theorem pd_8 : parseMethodDescriptor "(Ljava/lang/Object;)I" = some ⟨[(.object "java/lang/Object")], some .int⟩ := by decide +kernel
theorem pd_9 : parseMethodDescriptor "(Ljava/lang/Object;)Lcom/example/graphwarden/graphwarden/partition/OrderedPartition$Block;" = some ⟨[(.object "java/lang/Object")], some (.object "com/example/graphwarden/graphwarden/partition/OrderedPartition$Block")⟩ := by decide +kernel
theorem pd_10 : parseMethodDescriptor "(Ljava/lang/String;)V" = some ⟨[(.object "java/lang/String")], none⟩ := by decide +kernel
theorem pd_11 : parseMethodDescriptor "()Z" = some ⟨[], some .boolean⟩ := by decide +kernel
theorem pd_12 : parseMethodDescriptor "(Lcom/example/graphwarden/graphwarden/partition/OrderedPartition$Vertex;Lcom/example/graphwarden/graphwarden/partition/OrderedPartition$Block;)V" = some ⟨[(.object "com/example/graphwarden/graphwarden/partition/OrderedPartition$Vertex"), (.object "com/example/graphwarden/graphwarden/partition/OrderedPartition$Block")], none⟩ := by decide +kernel
theorem pd_13 : parseMethodDescriptor "()Lcom/example/graphwarden/graphwarden/Outcome;" = some ⟨[], some (.object "com/example/graphwarden/graphwarden/Outcome")⟩ := by decide +kernel
theorem pd_14 : parseMethodDescriptor "(Lcom/example/graphwarden/graphwarden/partition/OrderedPartition$Vertex;Ljava/util/List;)Lcom/example/graphwarden/graphwarden/Outcome;" = some ⟨[(.object "com/example/graphwarden/graphwarden/partition/OrderedPartition$Vertex"), (.object "java/util/List")], some (.object "com/example/graphwarden/graphwarden/Outcome")⟩ := by decide +kernel
theorem pd_15 : parseMethodDescriptor "(Ljava/util/ArrayList;)V" = some ⟨[(.object "java/util/ArrayList")], none⟩ := by decide +kernel
theorem pd_16 : parseMethodDescriptor "()Ljava/util/Iterator;" = some ⟨[], some (.object "java/util/Iterator")⟩ := by decide +kernel
theorem pd_17 : parseMethodDescriptor "()Ljava/lang/Object;" = some ⟨[], some (.object "java/lang/Object")⟩ := by decide +kernel
theorem pd_18 : parseMethodDescriptor "(IILjava/util/function/BiFunction;)I" = some ⟨[.int, .int, (.object "java/util/function/BiFunction")], some .int⟩ := by decide +kernel
theorem pd_19 : parseMethodDescriptor "(I)Ljava/lang/Object;" = some ⟨[.int], some (.object "java/lang/Object")⟩ := by decide +kernel
theorem pd_20 : parseMethodDescriptor "()Lcom/example/graphwarden/graphwarden/partition/OrderedPartition$Block;" = some ⟨[], some (.object "com/example/graphwarden/graphwarden/partition/OrderedPartition$Block")⟩ := by decide +kernel
theorem pd_21 : parseMethodDescriptor "(Lcom/example/graphwarden/graphwarden/partition/OrderedPartition$Vertex;)V" = some ⟨[(.object "com/example/graphwarden/graphwarden/partition/OrderedPartition$Vertex")], none⟩ := by decide +kernel
theorem pd_22 : parseMethodDescriptor "(Lcom/example/graphwarden/graphwarden/partition/OrderedPartition$Vertex;Ljava/util/List;)V" = some ⟨[(.object "com/example/graphwarden/graphwarden/partition/OrderedPartition$Vertex"), (.object "java/util/List")], none⟩ := by decide +kernel
theorem pd_23 : parseMethodDescriptor "(Ljava/util/List;)Ljava/util/List;" = some ⟨[(.object "java/util/List")], some (.object "java/util/List")⟩ := by decide +kernel
theorem pd_24 : parseMethodDescriptor "(Lcom/example/graphwarden/graphwarden/partition/OrderedPartition$Block;Ljava/lang/Object;)Lcom/example/graphwarden/graphwarden/partition/OrderedPartition$Block;" = some ⟨[(.object "com/example/graphwarden/graphwarden/partition/OrderedPartition$Block"), (.object "java/lang/Object")], some (.object "com/example/graphwarden/graphwarden/partition/OrderedPartition$Block")⟩ := by decide +kernel
theorem pd_25 : parseMethodDescriptor "()Lcom/example/graphwarden/graphwarden/partition/OrderedPartition$Vertex;" = some ⟨[], some (.object "com/example/graphwarden/graphwarden/partition/OrderedPartition$Vertex")⟩ := by decide +kernel
theorem pd_26 : parseMethodDescriptor "(Lcom/example/graphwarden/graphwarden/partition/OrderedPartition$Vertex;Lcom/example/graphwarden/graphwarden/chain/ChainPartition$Kind;)V" = some ⟨[(.object "com/example/graphwarden/graphwarden/partition/OrderedPartition$Vertex"), (.object "com/example/graphwarden/graphwarden/chain/ChainPartition$Kind")], none⟩ := by decide +kernel
theorem pd_27 : parseMethodDescriptor "(Lcom/example/graphwarden/graphwarden/partition/OrderedPartition$Vertex;Lcom/example/graphwarden/graphwarden/chain/ChainPartition$Kind;Ljava/util/List;)Lcom/example/graphwarden/graphwarden/Outcome;" = some ⟨[(.object "com/example/graphwarden/graphwarden/partition/OrderedPartition$Vertex"), (.object "com/example/graphwarden/graphwarden/chain/ChainPartition$Kind"), (.object "java/util/List")], some (.object "com/example/graphwarden/graphwarden/Outcome")⟩ := by decide +kernel
theorem pd_28 : parseMethodDescriptor "()Lcom/example/graphwarden/graphwarden/Outcome$Kind;" = some ⟨[], some (.object "com/example/graphwarden/graphwarden/Outcome$Kind")⟩ := by decide +kernel
theorem pd_29 : parseMethodDescriptor "(Lcom/example/graphwarden/graphwarden/partition/OrderedPartition$Vertex;I)V" = some ⟨[(.object "com/example/graphwarden/graphwarden/partition/OrderedPartition$Vertex"), .int], none⟩ := by decide +kernel
theorem pd_30 : parseMethodDescriptor "(Ljava/util/List;)V" = some ⟨[(.object "java/util/List")], none⟩ := by decide +kernel
theorem pd_31 : parseMethodDescriptor "(Lcom/example/graphwarden/graphwarden/partition/OrderedPartition$Block;)Lcom/example/graphwarden/graphwarden/partition/OrderedPartition$Block;" = some ⟨[(.object "com/example/graphwarden/graphwarden/partition/OrderedPartition$Block")], some (.object "com/example/graphwarden/graphwarden/partition/OrderedPartition$Block")⟩ := by decide +kernel
theorem pd_32 : parseMethodDescriptor "(Lcom/example/graphwarden/graphwarden/partition/OrderedPartition$Vertex;ZI)I" = some ⟨[(.object "com/example/graphwarden/graphwarden/partition/OrderedPartition$Vertex"), .boolean, .int], some .int⟩ := by decide +kernel
theorem pn_0 : plainName "com/example/graphwarden/graphwarden/chain/ChainPartitionBatchWeightPinLaw" = true := by first | (simp [plainName, overriddenIn]; done) | decide +kernel
theorem pn_1 : plainName "java/util/AbstractCollection" = true := by first | (simp [plainName, overriddenIn]; done) | decide +kernel
theorem pn_2 : plainName "java/util/AbstractList" = true := by first | (simp [plainName, overriddenIn]; done) | decide +kernel
theorem pn_3 : plainName "java/util/ArrayList" = true := by first | (simp [plainName, overriddenIn]; done) | decide +kernel
theorem pn_4 : plainName "com/example/graphwarden/graphwarden/partition/OrderedPartition$Table" = true := by first | (simp [plainName, overriddenIn]; done) | decide +kernel
theorem pn_5 : plainName "com/example/graphwarden/graphwarden/partition/OrderedPartition" = true := by first | (simp [plainName, overriddenIn]; done) | decide +kernel
theorem pn_6 : plainName "com/example/graphwarden/graphwarden/partition/OrderedPartition$Block" = true := by first | (simp [plainName, overriddenIn]; done) | decide +kernel
theorem pn_7 : plainName "com/example/graphwarden/graphwarden/chain/ChainPartition" = true := by first | (simp [plainName, overriddenIn]; done) | decide +kernel
theorem pn_8 : plainName "com/example/graphwarden/graphwarden/partition/OrderedPartition$Vertex" = true := by first | (simp [plainName, overriddenIn]; done) | decide +kernel
theorem pn_9 : plainName "com/example/graphwarden/graphwarden/Outcome" = true := by first | (simp [plainName, overriddenIn]; done) | decide +kernel
theorem pn_10 : plainName "java/util/ArrayList$Itr" = true := by first | (simp [plainName, overriddenIn]; done) | decide +kernel
theorem pn_11 : plainName "jdk/internal/util/Preconditions" = true := by first | (simp [plainName, overriddenIn]; done) | decide +kernel
theorem pn_12 : plainName "java/util/Objects" = true := by first | (simp [plainName, overriddenIn]; done) | decide +kernel
abbrev k1_ : ByteArray := prog_13_method_1_code
abbrev k2_ : ByteArray := prog_26_method_1_code
abbrev k4_ : ByteArray := prog_28_method_1_code
abbrev k5_ : ByteArray := jdk_38_method_2_code
abbrev k6_ : ByteArray := jdk_39_method_1_code
abbrev k7_ : ByteArray := jdk_22_method_1_code
abbrev k8_ : ByteArray := prog_26_method_15_code
abbrev k9_ : ByteArray := prog_27_method_1_code
abbrev k10_ : ByteArray := prog_28_method_2_code
abbrev k11_ : ByteArray := jdk_38_method_25_code
abbrev k12_ : ByteArray := jdk_38_method_24_code
abbrev k13_ : ByteArray := jdk_38_method_7_code
abbrev k14_ : ByteArray := jdk_38_method_6_code
abbrev k15_ : ByteArray := jdk_29_method_65_code
abbrev k16_ : ByteArray := jdk_38_method_8_code
abbrev k17_ : ByteArray := prog_29_method_1_code
abbrev k18_ : ByteArray := prog_13_method_2_code
abbrev k19_ : ByteArray := jdk_38_method_9_code
abbrev k20_ : ByteArray := prog_26_method_21_code
abbrev k21_ : ByteArray := prog_8_method_2_code
abbrev k22_ : ByteArray := prog_26_method_25_code
abbrev k23_ : ByteArray := jdk_38_method_55_code
abbrev k24_ : ByteArray := jdk_49_method_1_code
abbrev k25_ : ByteArray := jdk_49_method_2_code
abbrev k26_ : ByteArray := jdk_49_method_3_code
abbrev k27_ : ByteArray := jdk_49_method_6_code
abbrev k28_ : ByteArray := prog_26_method_26_code
abbrev k29_ : ByteArray := prog_29_method_4_code
abbrev k30_ : ByteArray := prog_28_method_3_code
abbrev k31_ : ByteArray := jdk_38_method_20_code
abbrev k32_ : ByteArray := jdk_31_method_17_code
abbrev k33_ : ByteArray := jdk_41_method_11_code
abbrev k34_ : ByteArray := jdk_38_method_18_code
abbrev k35_ : ByteArray := prog_26_method_20_code
abbrev k36_ : ByteArray := prog_26_method_22_code
abbrev k37_ : ByteArray := prog_13_method_13_code
abbrev k38_ : ByteArray := prog_27_method_2_code
abbrev k39_ : ByteArray := prog_13_method_14_code
abbrev k40_ : ByteArray := prog_26_method_13_code
abbrev k41_ : ByteArray := prog_27_method_4_code
abbrev k42_ : ByteArray := prog_13_method_16_code
abbrev k43_ : ByteArray := prog_26_method_14_code
abbrev k44_ : ByteArray := prog_26_method_16_code
abbrev k45_ : ByteArray := prog_27_method_6_code
abbrev k46_ : ByteArray := prog_8_method_8_code
abbrev k47_ : ByteArray := prog_26_method_24_code
abbrev k48_ : ByteArray := prog_26_method_27_code
abbrev k49_ : ByteArray := prog_27_method_5_code
abbrev k50_ : ByteArray := prog_13_method_17_code
abbrev k51_ : ByteArray := prog_27_method_9_code
abbrev k52_ : ByteArray := prog_13_method_15_code
abbrev k53_ : ByteArray := prog_13_method_18_code
abbrev k54_ : ByteArray := prog_13_method_9_code
abbrev k55_ : ByteArray := prog_29_method_3_code
theorem d1_0 : decode k1_ 0 = .ok (.aload_n 0, 1) := by decide +kernel
theorem d1_1 : decode k1_ 1 = .ok (.invokespecial 1, 3) := by decide +kernel
theorem d1_4 : decode k1_ 4 = .ok (.aload_n 0, 1) := by decide +kernel
theorem d1_5 : decode k1_ 5 = .ok (.aload_n 0, 1) := by decide +kernel
theorem d1_6 : decode k1_ 6 = .ok (.getstatic 7, 3) := by decide +kernel
theorem d1_9 : decode k1_ 9 = .ok (.invokevirtual 13, 3) := by decide +kernel
theorem d1_12 : decode k1_ 12 = .ok (.putfield 19, 3) := by decide +kernel
theorem d1_15 : decode k1_ 15 = .ok (.return_, 1) := by decide +kernel
theorem d2_0 : decode k2_ 0 = .ok (.aload_n 0, 1) := by decide +kernel
theorem d2_1 : decode k2_ 1 = .ok (.invokespecial 1, 3) := by decide +kernel
theorem d2_4 : decode k2_ 4 = .ok (.aload_n 0, 1) := by decide +kernel
theorem d2_5 : decode k2_ 5 = .ok (.new 7, 3) := by decide +kernel
theorem d2_8 : decode k2_ 8 = .ok (.dup, 1) := by decide +kernel
theorem d2_9 : decode k2_ 9 = .ok (.invokespecial 9, 3) := by decide +kernel
theorem d2_12 : decode k2_ 12 = .ok (.putfield 10, 3) := by decide +kernel
theorem d2_15 : decode k2_ 15 = .ok (.aload_n 0, 1) := by decide +kernel
theorem d2_16 : decode k2_ 16 = .ok (.new 7, 3) := by decide +kernel
theorem d2_19 : decode k2_ 19 = .ok (.dup, 1) := by decide +kernel
theorem d2_20 : decode k2_ 20 = .ok (.invokespecial 9, 3) := by decide +kernel
theorem d2_23 : decode k2_ 23 = .ok (.putfield 16, 3) := by decide +kernel
theorem d2_26 : decode k2_ 26 = .ok (.aload_n 0, 1) := by decide +kernel
theorem d2_27 : decode k2_ 27 = .ok (.iconst (-1), 1) := by decide +kernel
theorem d2_28 : decode k2_ 28 = .ok (.putfield 19, 3) := by decide +kernel
theorem d2_31 : decode k2_ 31 = .ok (.aload_n 0, 1) := by decide +kernel
theorem d2_32 : decode k2_ 32 = .ok (.iconst (-1), 1) := by decide +kernel
theorem d2_33 : decode k2_ 33 = .ok (.putfield 23, 3) := by decide +kernel
theorem d2_36 : decode k2_ 36 = .ok (.return_, 1) := by decide +kernel
theorem d4_0 : decode k4_ 0 = .ok (.aload_n 0, 1) := by decide +kernel
theorem d4_1 : decode k4_ 1 = .ok (.invokespecial 3, 3) := by decide +kernel
theorem d4_4 : decode k4_ 4 = .ok (.aload_n 0, 1) := by decide +kernel
theorem d4_5 : decode k4_ 5 = .ok (.new 9, 3) := by decide +kernel
theorem d4_8 : decode k4_ 8 = .ok (.dup, 1) := by decide +kernel
theorem d4_9 : decode k4_ 9 = .ok (.invokespecial 11, 3) := by decide +kernel
theorem d4_12 : decode k4_ 12 = .ok (.putfield 12, 3) := by decide +kernel
theorem d4_15 : decode k4_ 15 = .ok (.aload_n 0, 1) := by decide +kernel
theorem d4_16 : decode k4_ 16 = .ok (.iconst 0, 1) := by decide +kernel
theorem d4_17 : decode k4_ 17 = .ok (.newarray .int, 2) := by decide +kernel
theorem d4_19 : decode k4_ 19 = .ok (.putfield 18, 3) := by decide +kernel
theorem d4_22 : decode k4_ 22 = .ok (.return_, 1) := by decide +kernel
theorem d5_0 : decode k5_ 0 = .ok (.aload_n 0, 1) := by decide +kernel
theorem d5_1 : decode k5_ 1 = .ok (.invokespecial 1, 3) := by decide +kernel
theorem d5_4 : decode k5_ 4 = .ok (.aload_n 0, 1) := by decide +kernel
theorem d5_5 : decode k5_ 5 = .ok (.getstatic 39, 3) := by decide +kernel
theorem d5_8 : decode k5_ 8 = .ok (.putfield 9, 3) := by decide +kernel
theorem d5_11 : decode k5_ 11 = .ok (.return_, 1) := by decide +kernel
theorem d6_0 : decode k6_ 0 = .ok (.aload_n 0, 1) := by decide +kernel
theorem d6_1 : decode k6_ 1 = .ok (.invokespecial 1, 3) := by decide +kernel
theorem d6_4 : decode k6_ 4 = .ok (.aload_n 0, 1) := by decide +kernel
theorem d6_5 : decode k6_ 5 = .ok (.iconst 0, 1) := by decide +kernel
theorem d6_6 : decode k6_ 6 = .ok (.putfield 7, 3) := by decide +kernel
theorem d6_9 : decode k6_ 9 = .ok (.return_, 1) := by decide +kernel
theorem d7_0 : decode k7_ 0 = .ok (.aload_n 0, 1) := by decide +kernel
theorem d7_1 : decode k7_ 1 = .ok (.invokespecial 1, 3) := by decide +kernel
theorem d7_4 : decode k7_ 4 = .ok (.return_, 1) := by decide +kernel
theorem d8_0 : decode k8_ 0 = .ok (.new 60, 3) := by decide +kernel
theorem d8_3 : decode k8_ 3 = .ok (.dup, 1) := by decide +kernel
theorem d8_4 : decode k8_ 4 = .ok (.aload_n 0, 1) := by decide +kernel
theorem d8_5 : decode k8_ 5 = .ok (.aload_n 1, 1) := by decide +kernel
theorem d8_6 : decode k8_ 6 = .ok (.invokespecial 62, 3) := by decide +kernel
theorem d8_9 : decode k8_ 9 = .ok (.astore_n 2, 1) := by decide +kernel
theorem d8_10 : decode k8_ 10 = .ok (.aload_n 2, 1) := by decide +kernel
theorem d8_11 : decode k8_ 11 = .ok (.aload_n 0, 1) := by decide +kernel
theorem d8_12 : decode k8_ 12 = .ok (.getfield 16, 3) := by decide +kernel
theorem d8_15 : decode k8_ 15 = .ok (.aload_n 2, 1) := by decide +kernel
theorem d8_16 : decode k8_ 16 = .ok (.invokevirtual 65, 3) := by decide +kernel
theorem d8_19 : decode k8_ 19 = .ok (.putfield 69, 3) := by decide +kernel
theorem d8_22 : decode k8_ 22 = .ok (.aload_n 2, 1) := by decide +kernel
theorem d8_23 : decode k8_ 23 = .ok (.areturn, 1) := by decide +kernel
theorem d9_0 : decode k9_ 0 = .ok (.aload_n 0, 1) := by decide +kernel
theorem d9_1 : decode k9_ 1 = .ok (.invokespecial 3, 3) := by decide +kernel
theorem d9_4 : decode k9_ 4 = .ok (.aload_n 0, 1) := by decide +kernel
theorem d9_5 : decode k9_ 5 = .ok (.iconst (-1), 1) := by decide +kernel
theorem d9_6 : decode k9_ 6 = .ok (.putfield 9, 3) := by decide +kernel
theorem d9_9 : decode k9_ 9 = .ok (.aload_n 0, 1) := by decide +kernel
theorem d9_10 : decode k9_ 10 = .ok (.iconst (-1), 1) := by decide +kernel
theorem d9_11 : decode k9_ 11 = .ok (.putfield 15, 3) := by decide +kernel
theorem d9_14 : decode k9_ 14 = .ok (.aload_n 0, 1) := by decide +kernel
theorem d9_15 : decode k9_ 15 = .ok (.iconst (-1), 1) := by decide +kernel
theorem d9_16 : decode k9_ 16 = .ok (.putfield 18, 3) := by decide +kernel
theorem d9_19 : decode k9_ 19 = .ok (.aload_n 0, 1) := by decide +kernel
theorem d9_20 : decode k9_ 20 = .ok (.aload_n 1, 1) := by decide +kernel
theorem d9_21 : decode k9_ 21 = .ok (.putfield 21, 3) := by decide +kernel
theorem d9_24 : decode k9_ 24 = .ok (.aload_n 0, 1) := by decide +kernel
theorem d9_25 : decode k9_ 25 = .ok (.aload_n 2, 1) := by decide +kernel
theorem d9_26 : decode k9_ 26 = .ok (.putfield 25, 3) := by decide +kernel
theorem d9_29 : decode k9_ 29 = .ok (.return_, 1) := by decide +kernel
theorem d10_0 : decode k10_ 0 = .ok (.aload_n 0, 1) := by decide +kernel
theorem d10_1 : decode k10_ 1 = .ok (.getfield 22, 3) := by decide +kernel
theorem d10_4 : decode k10_ 4 = .ok (.ifCond .ne 26, 3) := by decide +kernel
theorem d10_7 : decode k10_ 7 = .ok (.aload_n 0, 1) := by decide +kernel
theorem d10_8 : decode k10_ 8 = .ok (.getfield 12, 3) := by decide +kernel
theorem d10_11 : decode k10_ 11 = .ok (.aload_n 1, 1) := by decide +kernel
theorem d10_12 : decode k10_ 12 = .ok (.invokeinterface 26 2, 5) := by decide +kernel
theorem d10_17 : decode k10_ 17 = .ok (.pop, 1) := by decide +kernel
theorem d10_18 : decode k10_ 18 = .ok (.aload_n 0, 1) := by decide +kernel
theorem d10_19 : decode k10_ 19 = .ok (.getfield 12, 3) := by decide +kernel
theorem d10_22 : decode k10_ 22 = .ok (.invokeinterface 32 1, 5) := by decide +kernel
theorem d10_27 : decode k10_ 27 = .ok (.iconst 1, 1) := by decide +kernel
theorem d10_28 : decode k10_ 28 = .ok (.isub, 1) := by decide +kernel
theorem d10_29 : decode k10_ 29 = .ok (.ireturn, 1) := by decide +kernel
theorem d11_0 : decode k11_ 0 = .ok (.aload_n 0, 1) := by decide +kernel
theorem d11_1 : decode k11_ 1 = .ok (.dup, 1) := by decide +kernel
theorem d11_2 : decode k11_ 2 = .ok (.getfield 63, 3) := by decide +kernel
theorem d11_5 : decode k11_ 5 = .ok (.iconst 1, 1) := by decide +kernel
theorem d11_6 : decode k11_ 6 = .ok (.iadd, 1) := by decide +kernel
theorem d11_7 : decode k11_ 7 = .ok (.putfield 63, 3) := by decide +kernel
theorem d11_10 : decode k11_ 10 = .ok (.aload_n 0, 1) := by decide +kernel
theorem d11_11 : decode k11_ 11 = .ok (.aload_n 1, 1) := by decide +kernel
theorem d11_12 : decode k11_ 12 = .ok (.aload_n 0, 1) := by decide +kernel
theorem d11_13 : decode k11_ 13 = .ok (.getfield 9, 3) := by decide +kernel
theorem d11_16 : decode k11_ 16 = .ok (.aload_n 0, 1) := by decide +kernel
theorem d11_17 : decode k11_ 17 = .ok (.getfield 48, 3) := by decide +kernel
theorem d11_20 : decode k11_ 20 = .ok (.invokevirtual 131, 3) := by decide +kernel
theorem d11_23 : decode k11_ 23 = .ok (.iconst 1, 1) := by decide +kernel
theorem d11_24 : decode k11_ 24 = .ok (.ireturn, 1) := by decide +kernel
theorem d12_0 : decode k12_ 0 = .ok (.iload_n 3, 1) := by decide +kernel
theorem d12_1 : decode k12_ 1 = .ok (.aload_n 2, 1) := by decide +kernel
theorem d12_2 : decode k12_ 2 = .ok (.arraylength, 1) := by decide +kernel
theorem d12_3 : decode k12_ 3 = .ok (.if_icmp .ne 8, 3) := by decide +kernel
theorem d12_6 : decode k12_ 6 = .ok (.aload_n 0, 1) := by decide +kernel
theorem d12_7 : decode k12_ 7 = .ok (.invokevirtual 129, 3) := by decide +kernel
theorem d12_10 : decode k12_ 10 = .ok (.astore_n 2, 1) := by decide +kernel
theorem d12_11 : decode k12_ 11 = .ok (.aload_n 2, 1) := by decide +kernel
theorem d12_12 : decode k12_ 12 = .ok (.iload_n 3, 1) := by decide +kernel
theorem d12_13 : decode k12_ 13 = .ok (.aload_n 1, 1) := by decide +kernel
theorem d12_14 : decode k12_ 14 = .ok (.aastore, 1) := by decide +kernel
theorem d12_15 : decode k12_ 15 = .ok (.aload_n 0, 1) := by decide +kernel
theorem d12_16 : decode k12_ 16 = .ok (.iload_n 3, 1) := by decide +kernel
theorem d12_17 : decode k12_ 17 = .ok (.iconst 1, 1) := by decide +kernel
theorem d12_18 : decode k12_ 18 = .ok (.iadd, 1) := by decide +kernel
theorem d12_19 : decode k12_ 19 = .ok (.putfield 48, 3) := by decide +kernel
theorem d12_22 : decode k12_ 22 = .ok (.return_, 1) := by decide +kernel
theorem d13_0 : decode k13_ 0 = .ok (.aload_n 0, 1) := by decide +kernel
theorem d13_1 : decode k13_ 1 = .ok (.aload_n 0, 1) := by decide +kernel
theorem d13_2 : decode k13_ 2 = .ok (.getfield 48, 3) := by decide +kernel
theorem d13_5 : decode k13_ 5 = .ok (.iconst 1, 1) := by decide +kernel
theorem d13_6 : decode k13_ 6 = .ok (.iadd, 1) := by decide +kernel
theorem d13_7 : decode k13_ 7 = .ok (.invokevirtual 69, 3) := by decide +kernel
theorem d13_10 : decode k13_ 10 = .ok (.areturn, 1) := by decide +kernel
theorem d14_0 : decode k14_ 0 = .ok (.aload_n 0, 1) := by decide +kernel
theorem d14_1 : decode k14_ 1 = .ok (.getfield 9, 3) := by decide +kernel
theorem d14_4 : decode k14_ 4 = .ok (.arraylength, 1) := by decide +kernel
theorem d14_5 : decode k14_ 5 = .ok (.istore_n 2, 1) := by decide +kernel
theorem d14_6 : decode k14_ 6 = .ok (.iload_n 2, 1) := by decide +kernel
theorem d14_7 : decode k14_ 7 = .ok (.ifCond .gt 13, 3) := by decide +kernel
theorem d14_10 : decode k14_ 10 = .ok (.aload_n 0, 1) := by decide +kernel
theorem d14_11 : decode k14_ 11 = .ok (.getfield 9, 3) := by decide +kernel
theorem d14_14 : decode k14_ 14 = .ok (.getstatic 39, 3) := by decide +kernel
theorem d14_17 : decode k14_ 17 = .ok (.if_acmp .eq 28, 3) := by decide +kernel
theorem d14_45 : decode k14_ 45 = .ok (.aload_n 0, 1) := by decide +kernel
theorem d14_46 : decode k14_ 46 = .ok (.bipush 10, 2) := by decide +kernel
theorem d14_48 : decode k14_ 48 = .ok (.iload_n 1, 1) := by decide +kernel
theorem d14_49 : decode k14_ 49 = .ok (.invokestatic 79, 3) := by decide +kernel
theorem d14_52 : decode k14_ 52 = .ok (.anewarray 7, 3) := by decide +kernel
theorem d14_55 : decode k14_ 55 = .ok (.dup_x1, 1) := by decide +kernel
theorem d14_56 : decode k14_ 56 = .ok (.putfield 9, 3) := by decide +kernel
theorem d14_59 : decode k14_ 59 = .ok (.areturn, 1) := by decide +kernel
theorem d15_0 : decode k15_ 0 = .ok (.iload_n 0, 1) := by decide +kernel
theorem d15_1 : decode k15_ 1 = .ok (.iload_n 1, 1) := by decide +kernel
theorem d15_2 : decode k15_ 2 = .ok (.if_icmp .lt 7, 3) := by decide +kernel
theorem d15_5 : decode k15_ 5 = .ok (.iload_n 0, 1) := by decide +kernel
theorem d15_6 : decode k15_ 6 = .ok (.goto 4, 3) := by decide +kernel
theorem d15_10 : decode k15_ 10 = .ok (.ireturn, 1) := by decide +kernel
theorem d16_0 : decode k16_ 0 = .ok (.aload_n 0, 1) := by decide +kernel
theorem d16_1 : decode k16_ 1 = .ok (.getfield 48, 3) := by decide +kernel
theorem d16_4 : decode k16_ 4 = .ok (.ireturn, 1) := by decide +kernel
theorem d17_0 : decode k17_ 0 = .ok (.aload_n 0, 1) := by decide +kernel
theorem d17_1 : decode k17_ 1 = .ok (.invokespecial 3, 3) := by decide +kernel
theorem d17_4 : decode k17_ 4 = .ok (.aload_n 0, 1) := by decide +kernel
theorem d17_5 : decode k17_ 5 = .ok (.iconst (-1), 1) := by decide +kernel
theorem d17_6 : decode k17_ 6 = .ok (.putfield 9, 3) := by decide +kernel
theorem d17_9 : decode k17_ 9 = .ok (.aload_n 0, 1) := by decide +kernel
theorem d17_10 : decode k17_ 10 = .ok (.iconst (-1), 1) := by decide +kernel
theorem d17_11 : decode k17_ 11 = .ok (.putfield 15, 3) := by decide +kernel
theorem d17_14 : decode k17_ 14 = .ok (.aload_n 0, 1) := by decide +kernel
theorem d17_15 : decode k17_ 15 = .ok (.iconst (-1), 1) := by decide +kernel
theorem d17_16 : decode k17_ 16 = .ok (.putfield 18, 3) := by decide +kernel
theorem d17_19 : decode k17_ 19 = .ok (.aload_n 0, 1) := by decide +kernel
theorem d17_20 : decode k17_ 20 = .ok (.iconst (-1), 1) := by decide +kernel
theorem d17_21 : decode k17_ 21 = .ok (.putfield 21, 3) := by decide +kernel
theorem d17_24 : decode k17_ 24 = .ok (.aload_n 0, 1) := by decide +kernel
theorem d17_25 : decode k17_ 25 = .ok (.aload_n 1, 1) := by decide +kernel
theorem d17_26 : decode k17_ 26 = .ok (.putfield 24, 3) := by decide +kernel
theorem d17_29 : decode k17_ 29 = .ok (.return_, 1) := by decide +kernel
theorem d18_0 : decode k18_ 0 = .ok (.aload_n 2, 1) := by decide +kernel
theorem d18_1 : decode k18_ 1 = .ok (.invokeinterface 23 1, 5) := by decide +kernel
theorem d18_6 : decode k18_ 6 = .ok (.ifCond .eq 15, 3) := by decide +kernel
theorem d18_9 : decode k18_ 9 = .ok (.aload_n 1, 1) := by decide +kernel
theorem d18_10 : decode k18_ 10 = .ok (.aload_n 0, 1) := by decide +kernel
theorem d18_11 : decode k18_ 11 = .ok (.getfield 19, 3) := by decide +kernel
theorem d18_14 : decode k18_ 14 = .ok (.invokestatic 29, 3) := by decide +kernel
theorem d18_17 : decode k18_ 17 = .ok (.invokestatic 33, 3) := by decide +kernel
theorem d18_20 : decode k18_ 20 = .ok (.areturn, 1) := by decide +kernel
theorem d18_21 : decode k18_ 21 = .ok (.aload_n 2, 1) := by decide +kernel
theorem d18_22 : decode k18_ 22 = .ok (.invokestatic 39, 3) := by decide +kernel
theorem d18_25 : decode k18_ 25 = .ok (.astore_n 3, 1) := by decide +kernel
theorem d18_26 : decode k18_ 26 = .ok (.aload_n 0, 1) := by decide +kernel
theorem d18_27 : decode k18_ 27 = .ok (.aload_n 1, 1) := by decide +kernel
theorem d18_28 : decode k18_ 28 = .ok (.aload_n 3, 1) := by decide +kernel
theorem d18_29 : decode k18_ 29 = .ok (.invokevirtual 43, 3) := by decide +kernel
theorem d18_32 : decode k18_ 32 = .ok (.astore 4, 2) := by decide +kernel
theorem d18_34 : decode k18_ 34 = .ok (.aload 4, 2) := by decide +kernel
theorem d18_36 : decode k18_ 36 = .ok (.invokevirtual 47, 3) := by decide +kernel
theorem d18_39 : decode k18_ 39 = .ok (.getstatic 51, 3) := by decide +kernel
theorem d18_42 : decode k18_ 42 = .ok (.if_acmp .ne 52, 3) := by decide +kernel
theorem d18_45 : decode k18_ 45 = .ok (.aload_n 1, 1) := by decide +kernel
theorem d18_46 : decode k18_ 46 = .ok (.aload_n 2, 1) := by decide +kernel
theorem d18_47 : decode k18_ 47 = .ok (.invokeinterface 57 1, 5) := by decide +kernel
theorem d18_52 : decode k18_ 52 = .ok (.invokestatic 61, 3) := by decide +kernel
theorem d18_55 : decode k18_ 55 = .ok (.aload_n 2, 1) := by decide +kernel
theorem d18_56 : decode k18_ 56 = .ok (.invokeinterface 65 1, 5) := by decide +kernel
theorem d18_61 : decode k18_ 61 = .ok (.astore 5, 2) := by decide +kernel
theorem d18_63 : decode k18_ 63 = .ok (.aload 5, 2) := by decide +kernel
theorem d18_65 : decode k18_ 65 = .ok (.invokeinterface 69 1, 5) := by decide +kernel
theorem d18_70 : decode k18_ 70 = .ok (.ifCond .eq 24, 3) := by decide +kernel
theorem d18_73 : decode k18_ 73 = .ok (.aload 5, 2) := by decide +kernel
theorem d18_75 : decode k18_ 75 = .ok (.invokeinterface 74 1, 5) := by decide +kernel
theorem d18_80 : decode k18_ 80 = .ok (.checkcast 78, 3) := by decide +kernel
theorem d18_83 : decode k18_ 83 = .ok (.astore 6, 2) := by decide +kernel
theorem d18_85 : decode k18_ 85 = .ok (.aload 6, 2) := by decide +kernel
theorem d18_87 : decode k18_ 87 = .ok (.iconst 1, 1) := by decide +kernel
theorem d18_88 : decode k18_ 88 = .ok (.invokestatic 61, 3) := by decide +kernel
theorem d18_91 : decode k18_ 91 = .ok (.goto (-28), 3) := by decide +kernel
theorem d18_94 : decode k18_ 94 = .ok (.aload 4, 2) := by decide +kernel
theorem d18_96 : decode k18_ 96 = .ok (.astore 5, 2) := by decide +kernel
theorem d18_98 : decode k18_ 98 = .ok (.aload_n 3, 1) := by decide +kernel
theorem d18_99 : decode k18_ 99 = .ok (.invokestatic 80, 3) := by decide +kernel
theorem d18_102 : decode k18_ 102 = .ok (.aload 5, 2) := by decide +kernel
theorem d18_104 : decode k18_ 104 = .ok (.areturn, 1) := by decide +kernel
theorem d19_0 : decode k19_ 0 = .ok (.aload_n 0, 1) := by decide +kernel
theorem d19_1 : decode k19_ 1 = .ok (.getfield 48, 3) := by decide +kernel
theorem d19_4 : decode k19_ 4 = .ok (.ifCond .ne 7, 3) := by decide +kernel
theorem d19_7 : decode k19_ 7 = .ok (.iconst 1, 1) := by decide +kernel
theorem d19_8 : decode k19_ 8 = .ok (.goto 4, 3) := by decide +kernel
theorem d19_11 : decode k19_ 11 = .ok (.iconst 0, 1) := by decide +kernel
theorem d19_12 : decode k19_ 12 = .ok (.ireturn, 1) := by decide +kernel
theorem d20_0 : decode k20_ 0 = .ok (.aload_n 1, 1) := by decide +kernel
theorem d20_1 : decode k20_ 1 = .ok (.getfield 125, 3) := by decide +kernel
theorem d20_4 : decode k20_ 4 = .ok (.astore_n 2, 1) := by decide +kernel
theorem d20_5 : decode k20_ 5 = .ok (.aload_n 0, 1) := by decide +kernel
theorem d20_6 : decode k20_ 6 = .ok (.getfield 129, 3) := by decide +kernel
theorem d20_9 : decode k20_ 9 = .ok (.iconst (-1), 1) := by decide +kernel
theorem d20_10 : decode k20_ 10 = .ok (.if_icmp .ne 20, 3) := by decide +kernel
theorem d20_13 : decode k20_ 13 = .ok (.aload_n 0, 1) := by decide +kernel
theorem d20_14 : decode k20_ 14 = .ok (.aload_n 2, 1) := by decide +kernel
theorem d20_15 : decode k20_ 15 = .ok (.putfield 132, 3) := by decide +kernel
theorem d20_18 : decode k20_ 18 = .ok (.aload_n 0, 1) := by decide +kernel
theorem d20_19 : decode k20_ 19 = .ok (.aload_n 2, 1) := by decide +kernel
theorem d20_20 : decode k20_ 20 = .ok (.getfield 10, 3) := by decide +kernel
theorem d20_23 : decode k20_ 23 = .ok (.aload_n 0, 1) := by decide +kernel
theorem d20_24 : decode k20_ 24 = .ok (.invokevirtual 65, 3) := by decide +kernel
theorem d20_27 : decode k20_ 27 = .ok (.putfield 129, 3) := by decide +kernel
theorem d20_30 : decode k20_ 30 = .ok (.aload_n 0, 1) := by decide +kernel
theorem d20_31 : decode k20_ 31 = .ok (.aload_n 1, 1) := by decide +kernel
theorem d20_32 : decode k20_ 32 = .ok (.getfield 69, 3) := by decide +kernel
theorem d20_35 : decode k20_ 35 = .ok (.putfield 133, 3) := by decide +kernel
theorem d20_38 : decode k20_ 38 = .ok (.aload_n 0, 1) := by decide +kernel
theorem d20_39 : decode k20_ 39 = .ok (.iconst (-1), 1) := by decide +kernel
theorem d20_40 : decode k20_ 40 = .ok (.putfield 136, 3) := by decide +kernel
theorem d20_43 : decode k20_ 43 = .ok (.aload_n 0, 1) := by decide +kernel
theorem d20_44 : decode k20_ 44 = .ok (.aload_n 1, 1) := by decide +kernel
theorem d20_45 : decode k20_ 45 = .ok (.getfield 104, 3) := by decide +kernel
theorem d20_48 : decode k20_ 48 = .ok (.putfield 137, 3) := by decide +kernel
theorem d20_51 : decode k20_ 51 = .ok (.aload_n 1, 1) := by decide +kernel
theorem d20_52 : decode k20_ 52 = .ok (.getfield 104, 3) := by decide +kernel
theorem d20_55 : decode k20_ 55 = .ok (.iconst (-1), 1) := by decide +kernel
theorem d20_56 : decode k20_ 56 = .ok (.if_icmp .eq 24, 3) := by decide +kernel
theorem d20_59 : decode k20_ 59 = .ok (.aload_n 2, 1) := by decide +kernel
theorem d20_60 : decode k20_ 60 = .ok (.getfield 10, 3) := by decide +kernel
theorem d20_63 : decode k20_ 63 = .ok (.aload_n 1, 1) := by decide +kernel
theorem d20_64 : decode k20_ 64 = .ok (.getfield 104, 3) := by decide +kernel
theorem d20_67 : decode k20_ 67 = .ok (.invokevirtual 59, 3) := by decide +kernel
theorem d20_70 : decode k20_ 70 = .ok (.checkcast 130, 3) := by decide +kernel
theorem d20_73 : decode k20_ 73 = .ok (.aload_n 0, 1) := by decide +kernel
theorem d20_74 : decode k20_ 74 = .ok (.getfield 129, 3) := by decide +kernel
theorem d20_77 : decode k20_ 77 = .ok (.putfield 136, 3) := by decide +kernel
theorem d20_80 : decode k20_ 80 = .ok (.aload_n 1, 1) := by decide +kernel
theorem d20_81 : decode k20_ 81 = .ok (.aload_n 0, 1) := by decide +kernel
theorem d20_82 : decode k20_ 82 = .ok (.getfield 129, 3) := by decide +kernel
theorem d20_85 : decode k20_ 85 = .ok (.putfield 104, 3) := by decide +kernel
theorem d20_88 : decode k20_ 88 = .ok (.aload_n 1, 1) := by decide +kernel
theorem d20_89 : decode k20_ 89 = .ok (.dup, 1) := by decide +kernel
theorem d20_90 : decode k20_ 90 = .ok (.getfield 89, 3) := by decide +kernel
theorem d20_93 : decode k20_ 93 = .ok (.iconst 1, 1) := by decide +kernel
theorem d20_94 : decode k20_ 94 = .ok (.iadd, 1) := by decide +kernel
theorem d20_95 : decode k20_ 95 = .ok (.putfield 89, 3) := by decide +kernel
theorem d20_98 : decode k20_ 98 = .ok (.return_, 1) := by decide +kernel
theorem d21_0 : decode k21_ 0 = .ok (.getstatic 51, 3) := by decide +kernel
theorem d21_3 : decode k21_ 3 = .ok (.areturn, 1) := by decide +kernel
theorem d22_0 : decode k22_ 0 = .ok (.new 141, 3) := by decide +kernel
theorem d22_3 : decode k22_ 3 = .ok (.dup, 1) := by decide +kernel
theorem d22_4 : decode k22_ 4 = .ok (.invokespecial 143, 3) := by decide +kernel
theorem d22_7 : decode k22_ 7 = .ok (.astore_n 1, 1) := by decide +kernel
theorem d22_8 : decode k22_ 8 = .ok (.aload_n 0, 1) := by decide +kernel
theorem d22_9 : decode k22_ 9 = .ok (.invokeinterface 144 1, 5) := by decide +kernel
theorem d22_14 : decode k22_ 14 = .ok (.astore_n 2, 1) := by decide +kernel
theorem d22_15 : decode k22_ 15 = .ok (.aload_n 2, 1) := by decide +kernel
theorem d22_16 : decode k22_ 16 = .ok (.invokeinterface 148 1, 5) := by decide +kernel
theorem d22_21 : decode k22_ 21 = .ok (.ifCond .eq 21, 3) := by decide +kernel
theorem d22_24 : decode k22_ 24 = .ok (.aload_n 2, 1) := by decide +kernel
theorem d22_25 : decode k22_ 25 = .ok (.invokeinterface 154 1, 5) := by decide +kernel
theorem d22_30 : decode k22_ 30 = .ok (.checkcast 130, 3) := by decide +kernel
theorem d22_33 : decode k22_ 33 = .ok (.astore_n 3, 1) := by decide +kernel
theorem d22_34 : decode k22_ 34 = .ok (.aload_n 3, 1) := by decide +kernel
theorem d22_35 : decode k22_ 35 = .ok (.aload_n 1, 1) := by decide +kernel
theorem d22_36 : decode k22_ 36 = .ok (.invokestatic 157, 3) := by decide +kernel
theorem d22_39 : decode k22_ 39 = .ok (.goto (-24), 3) := by decide +kernel
theorem d22_42 : decode k22_ 42 = .ok (.aload_n 1, 1) := by decide +kernel
theorem d22_43 : decode k22_ 43 = .ok (.areturn, 1) := by decide +kernel
theorem d23_0 : decode k23_ 0 = .ok (.new 267, 3) := by decide +kernel
theorem d23_3 : decode k23_ 3 = .ok (.dup, 1) := by decide +kernel
theorem d23_4 : decode k23_ 4 = .ok (.aload_n 0, 1) := by decide +kernel
theorem d23_5 : decode k23_ 5 = .ok (.invokespecial 269, 3) := by decide +kernel
theorem d23_8 : decode k23_ 8 = .ok (.areturn, 1) := by decide +kernel
theorem d24_0 : decode k24_ 0 = .ok (.aload_n 0, 1) := by decide +kernel
theorem d24_1 : decode k24_ 1 = .ok (.aload_n 1, 1) := by decide +kernel
theorem d24_2 : decode k24_ 2 = .ok (.putfield 1, 3) := by decide +kernel
theorem d24_5 : decode k24_ 5 = .ok (.aload_n 0, 1) := by decide +kernel
theorem d24_6 : decode k24_ 6 = .ok (.invokespecial 7, 3) := by decide +kernel
theorem d24_9 : decode k24_ 9 = .ok (.aload_n 0, 1) := by decide +kernel
theorem d24_10 : decode k24_ 10 = .ok (.iconst (-1), 1) := by decide +kernel
theorem d24_11 : decode k24_ 11 = .ok (.putfield 13, 3) := by decide +kernel
theorem d24_14 : decode k24_ 14 = .ok (.aload_n 0, 1) := by decide +kernel
theorem d24_15 : decode k24_ 15 = .ok (.aload_n 0, 1) := by decide +kernel
theorem d24_16 : decode k24_ 16 = .ok (.getfield 1, 3) := by decide +kernel
theorem d24_19 : decode k24_ 19 = .ok (.getfield 17, 3) := by decide +kernel
theorem d24_22 : decode k24_ 22 = .ok (.putfield 22, 3) := by decide +kernel
theorem d24_25 : decode k24_ 25 = .ok (.return_, 1) := by decide +kernel
theorem d25_0 : decode k25_ 0 = .ok (.aload_n 0, 1) := by decide +kernel
theorem d25_1 : decode k25_ 1 = .ok (.getfield 25, 3) := by decide +kernel
theorem d25_4 : decode k25_ 4 = .ok (.aload_n 0, 1) := by decide +kernel
theorem d25_5 : decode k25_ 5 = .ok (.getfield 1, 3) := by decide +kernel
theorem d25_8 : decode k25_ 8 = .ok (.getfield 28, 3) := by decide +kernel
theorem d25_11 : decode k25_ 11 = .ok (.if_icmp .eq 7, 3) := by decide +kernel
theorem d25_14 : decode k25_ 14 = .ok (.iconst 1, 1) := by decide +kernel
theorem d25_15 : decode k25_ 15 = .ok (.goto 4, 3) := by decide +kernel
theorem d25_18 : decode k25_ 18 = .ok (.iconst 0, 1) := by decide +kernel
theorem d25_19 : decode k25_ 19 = .ok (.ireturn, 1) := by decide +kernel
theorem d26_0 : decode k26_ 0 = .ok (.aload_n 0, 1) := by decide +kernel
theorem d26_1 : decode k26_ 1 = .ok (.invokevirtual 31, 3) := by decide +kernel
theorem d26_4 : decode k26_ 4 = .ok (.aload_n 0, 1) := by decide +kernel
theorem d26_5 : decode k26_ 5 = .ok (.getfield 25, 3) := by decide +kernel
theorem d26_8 : decode k26_ 8 = .ok (.istore_n 1, 1) := by decide +kernel
theorem d26_9 : decode k26_ 9 = .ok (.iload_n 1, 1) := by decide +kernel
theorem d26_10 : decode k26_ 10 = .ok (.aload_n 0, 1) := by decide +kernel
theorem d26_11 : decode k26_ 11 = .ok (.getfield 1, 3) := by decide +kernel
theorem d26_14 : decode k26_ 14 = .ok (.getfield 28, 3) := by decide +kernel
theorem d26_17 : decode k26_ 17 = .ok (.if_icmp .lt 11, 3) := by decide +kernel
theorem d26_28 : decode k26_ 28 = .ok (.aload_n 0, 1) := by decide +kernel
theorem d26_29 : decode k26_ 29 = .ok (.getfield 1, 3) := by decide +kernel
theorem d26_32 : decode k26_ 32 = .ok (.getfield 37, 3) := by decide +kernel
theorem d26_35 : decode k26_ 35 = .ok (.astore_n 2, 1) := by decide +kernel
theorem d26_36 : decode k26_ 36 = .ok (.iload_n 1, 1) := by decide +kernel
theorem d26_37 : decode k26_ 37 = .ok (.aload_n 2, 1) := by decide +kernel
theorem d26_38 : decode k26_ 38 = .ok (.arraylength, 1) := by decide +kernel
theorem d26_39 : decode k26_ 39 = .ok (.if_icmp .lt 11, 3) := by decide +kernel
theorem d26_50 : decode k26_ 50 = .ok (.aload_n 0, 1) := by decide +kernel
theorem d26_51 : decode k26_ 51 = .ok (.iload_n 1, 1) := by decide +kernel
theorem d26_52 : decode k26_ 52 = .ok (.iconst 1, 1) := by decide +kernel
theorem d26_53 : decode k26_ 53 = .ok (.iadd, 1) := by decide +kernel
theorem d26_54 : decode k26_ 54 = .ok (.putfield 25, 3) := by decide +kernel
theorem d26_57 : decode k26_ 57 = .ok (.aload_n 2, 1) := by decide +kernel
theorem d26_58 : decode k26_ 58 = .ok (.aload_n 0, 1) := by decide +kernel
theorem d26_59 : decode k26_ 59 = .ok (.iload_n 1, 1) := by decide +kernel
theorem d26_60 : decode k26_ 60 = .ok (.dup_x1, 1) := by decide +kernel
theorem d26_61 : decode k26_ 61 = .ok (.putfield 13, 3) := by decide +kernel
theorem d26_64 : decode k26_ 64 = .ok (.aaload, 1) := by decide +kernel
theorem d26_65 : decode k26_ 65 = .ok (.areturn, 1) := by decide +kernel
theorem d27_0 : decode k27_ 0 = .ok (.aload_n 0, 1) := by decide +kernel
theorem d27_1 : decode k27_ 1 = .ok (.getfield 1, 3) := by decide +kernel
theorem d27_4 : decode k27_ 4 = .ok (.getfield 17, 3) := by decide +kernel
theorem d27_7 : decode k27_ 7 = .ok (.aload_n 0, 1) := by decide +kernel
theorem d27_8 : decode k27_ 8 = .ok (.getfield 22, 3) := by decide +kernel
theorem d27_11 : decode k27_ 11 = .ok (.if_icmp .eq 11, 3) := by decide +kernel
theorem d27_22 : decode k27_ 22 = .ok (.return_, 1) := by decide +kernel
theorem d28_0 : decode k28_ 0 = .ok (.aload_n 0, 1) := by decide +kernel
theorem d28_1 : decode k28_ 1 = .ok (.invokevirtual 161, 3) := by decide +kernel
theorem d28_4 : decode k28_ 4 = .ok (.astore_n 2, 1) := by decide +kernel
theorem d28_5 : decode k28_ 5 = .ok (.aload_n 2, 1) := by decide +kernel
theorem d28_6 : decode k28_ 6 = .ok (.getfield 163, 3) := by decide +kernel
theorem d28_9 : decode k28_ 9 = .ok (.ifCond .ne 11, 3) := by decide +kernel
theorem d28_12 : decode k28_ 12 = .ok (.aload_n 1, 1) := by decide +kernel
theorem d28_13 : decode k28_ 13 = .ok (.aload_n 2, 1) := by decide +kernel
theorem d28_14 : decode k28_ 14 = .ok (.invokeinterface 166 2, 5) := by decide +kernel
theorem d28_19 : decode k28_ 19 = .ok (.pop, 1) := by decide +kernel
theorem d28_20 : decode k28_ 20 = .ok (.aload_n 2, 1) := by decide +kernel
theorem d28_21 : decode k28_ 21 = .ok (.dup, 1) := by decide +kernel
theorem d28_22 : decode k28_ 22 = .ok (.getfield 163, 3) := by decide +kernel
theorem d28_25 : decode k28_ 25 = .ok (.iconst 1, 1) := by decide +kernel
theorem d28_26 : decode k28_ 26 = .ok (.iadd, 1) := by decide +kernel
theorem d28_27 : decode k28_ 27 = .ok (.putfield 163, 3) := by decide +kernel
theorem d28_30 : decode k28_ 30 = .ok (.aload_n 0, 1) := by decide +kernel
theorem d28_31 : decode k28_ 31 = .ok (.aload_n 2, 1) := by decide +kernel
theorem d28_32 : decode k28_ 32 = .ok (.invokestatic 110, 3) := by decide +kernel
theorem d28_35 : decode k28_ 35 = .ok (.return_, 1) := by decide +kernel
theorem d29_0 : decode k29_ 0 = .ok (.aload_n 0, 1) := by decide +kernel
theorem d29_1 : decode k29_ 1 = .ok (.getfield 31, 3) := by decide +kernel
theorem d29_4 : decode k29_ 4 = .ok (.ifnonnull 7, 3) := by decide +kernel
theorem d29_11 : decode k29_ 11 = .ok (.aload_n 0, 1) := by decide +kernel
theorem d29_12 : decode k29_ 12 = .ok (.getfield 31, 3) := by decide +kernel
theorem d29_15 : decode k29_ 15 = .ok (.getfield 35, 3) := by decide +kernel
theorem d29_18 : decode k29_ 18 = .ok (.aload_n 0, 1) := by decide +kernel
theorem d29_19 : decode k29_ 19 = .ok (.getfield 15, 3) := by decide +kernel
theorem d29_22 : decode k29_ 22 = .ok (.invokevirtual 39, 3) := by decide +kernel
theorem d29_25 : decode k29_ 25 = .ok (.checkcast 45, 3) := by decide +kernel
theorem d29_28 : decode k29_ 28 = .ok (.areturn, 1) := by decide +kernel
theorem d30_0 : decode k30_ 0 = .ok (.iload_n 1, 1) := by decide +kernel
theorem d30_1 : decode k30_ 1 = .ok (.iconst (-1), 1) := by decide +kernel
theorem d30_2 : decode k30_ 2 = .ok (.if_icmp .ne 7, 3) := by decide +kernel
theorem d30_5 : decode k30_ 5 = .ok (.aconst_null, 1) := by decide +kernel
theorem d30_6 : decode k30_ 6 = .ok (.goto 13, 3) := by decide +kernel
theorem d30_9 : decode k30_ 9 = .ok (.aload_n 0, 1) := by decide +kernel
theorem d30_10 : decode k30_ 10 = .ok (.getfield 12, 3) := by decide +kernel
theorem d30_13 : decode k30_ 13 = .ok (.iload_n 1, 1) := by decide +kernel
theorem d30_14 : decode k30_ 14 = .ok (.invokeinterface 40 2, 5) := by decide +kernel
theorem d30_19 : decode k30_ 19 = .ok (.areturn, 1) := by decide +kernel
theorem d31_0 : decode k31_ 0 = .ok (.iload_n 1, 1) := by decide +kernel
theorem d31_1 : decode k31_ 1 = .ok (.aload_n 0, 1) := by decide +kernel
theorem d31_2 : decode k31_ 2 = .ok (.getfield 48, 3) := by decide +kernel
theorem d31_5 : decode k31_ 5 = .ok (.invokestatic 118, 3) := by decide +kernel
theorem d31_8 : decode k31_ 8 = .ok (.pop, 1) := by decide +kernel
theorem d31_9 : decode k31_ 9 = .ok (.aload_n 0, 1) := by decide +kernel
theorem d31_10 : decode k31_ 10 = .ok (.iload_n 1, 1) := by decide +kernel
theorem d31_11 : decode k31_ 11 = .ok (.invokevirtual 123, 3) := by decide +kernel
theorem d31_14 : decode k31_ 14 = .ok (.areturn, 1) := by decide +kernel
theorem d32_0 : decode k32_ 0 = .ok (.iload_n 0, 1) := by decide +kernel
theorem d32_1 : decode k32_ 1 = .ok (.iload_n 1, 1) := by decide +kernel
theorem d32_2 : decode k32_ 2 = .ok (.aconst_null, 1) := by decide +kernel
theorem d32_3 : decode k32_ 3 = .ok (.invokestatic 105, 3) := by decide +kernel
theorem d32_6 : decode k32_ 6 = .ok (.ireturn, 1) := by decide +kernel
theorem d33_0 : decode k33_ 0 = .ok (.iload_n 0, 1) := by decide +kernel
theorem d33_1 : decode k33_ 1 = .ok (.ifCond .lt 8, 3) := by decide +kernel
theorem d33_4 : decode k33_ 4 = .ok (.iload_n 0, 1) := by decide +kernel
theorem d33_5 : decode k33_ 5 = .ok (.iload_n 1, 1) := by decide +kernel
theorem d33_6 : decode k33_ 6 = .ok (.if_icmp .lt 10, 3) := by decide +kernel
theorem d33_16 : decode k33_ 16 = .ok (.iload_n 0, 1) := by decide +kernel
theorem d33_17 : decode k33_ 17 = .ok (.ireturn, 1) := by decide +kernel
theorem d34_0 : decode k34_ 0 = .ok (.aload_n 0, 1) := by decide +kernel
theorem d34_1 : decode k34_ 1 = .ok (.getfield 9, 3) := by decide +kernel
theorem d34_4 : decode k34_ 4 = .ok (.iload_n 1, 1) := by decide +kernel
theorem d34_5 : decode k34_ 5 = .ok (.aaload, 1) := by decide +kernel
theorem d34_6 : decode k34_ 6 = .ok (.areturn, 1) := by decide +kernel
theorem d35_0 : decode k35_ 0 = .ok (.aload_n 0, 1) := by decide +kernel
theorem d35_1 : decode k35_ 1 = .ok (.invokestatic 118, 3) := by decide +kernel
theorem d35_4 : decode k35_ 4 = .ok (.aload_n 0, 1) := by decide +kernel
theorem d35_5 : decode k35_ 5 = .ok (.aload_n 1, 1) := by decide +kernel
theorem d35_6 : decode k35_ 6 = .ok (.invokestatic 122, 3) := by decide +kernel
theorem d35_9 : decode k35_ 9 = .ok (.return_, 1) := by decide +kernel
theorem d36_0 : decode k36_ 0 = .ok (.aload_n 0, 1) := by decide +kernel
theorem d36_1 : decode k36_ 1 = .ok (.getfield 132, 3) := by decide +kernel
theorem d36_4 : decode k36_ 4 = .ok (.astore_n 1, 1) := by decide +kernel
theorem d36_5 : decode k36_ 5 = .ok (.aload_n 0, 1) := by decide +kernel
theorem d36_6 : decode k36_ 6 = .ok (.getfield 136, 3) := by decide +kernel
theorem d36_9 : decode k36_ 9 = .ok (.iconst (-1), 1) := by decide +kernel
theorem d36_10 : decode k36_ 10 = .ok (.if_icmp .ne 27, 3) := by decide +kernel
theorem d36_13 : decode k36_ 13 = .ok (.aload_n 1, 1) := by decide +kernel
theorem d36_14 : decode k36_ 14 = .ok (.getfield 16, 3) := by decide +kernel
theorem d36_17 : decode k36_ 17 = .ok (.aload_n 0, 1) := by decide +kernel
theorem d36_18 : decode k36_ 18 = .ok (.getfield 133, 3) := by decide +kernel
theorem d36_21 : decode k36_ 21 = .ok (.invokevirtual 59, 3) := by decide +kernel
theorem d36_24 : decode k36_ 24 = .ok (.checkcast 60, 3) := by decide +kernel
theorem d36_27 : decode k36_ 27 = .ok (.aload_n 0, 1) := by decide +kernel
theorem d36_28 : decode k36_ 28 = .ok (.getfield 137, 3) := by decide +kernel
theorem d36_31 : decode k36_ 31 = .ok (.putfield 104, 3) := by decide +kernel
theorem d36_34 : decode k36_ 34 = .ok (.goto 24, 3) := by decide +kernel
theorem d36_58 : decode k36_ 58 = .ok (.aload_n 0, 1) := by decide +kernel
theorem d36_59 : decode k36_ 59 = .ok (.getfield 137, 3) := by decide +kernel
theorem d36_62 : decode k36_ 62 = .ok (.iconst (-1), 1) := by decide +kernel
theorem d36_63 : decode k36_ 63 = .ok (.if_icmp .eq 24, 3) := by decide +kernel
theorem d36_87 : decode k36_ 87 = .ok (.aload_n 1, 1) := by decide +kernel
theorem d36_88 : decode k36_ 88 = .ok (.getfield 16, 3) := by decide +kernel
theorem d36_91 : decode k36_ 91 = .ok (.aload_n 0, 1) := by decide +kernel
theorem d36_92 : decode k36_ 92 = .ok (.getfield 133, 3) := by decide +kernel
theorem d36_95 : decode k36_ 95 = .ok (.invokevirtual 59, 3) := by decide +kernel
theorem d36_98 : decode k36_ 98 = .ok (.checkcast 60, 3) := by decide +kernel
theorem d36_101 : decode k36_ 101 = .ok (.dup, 1) := by decide +kernel
theorem d36_102 : decode k36_ 102 = .ok (.getfield 89, 3) := by decide +kernel
theorem d36_105 : decode k36_ 105 = .ok (.iconst 1, 1) := by decide +kernel
theorem d36_106 : decode k36_ 106 = .ok (.isub, 1) := by decide +kernel
theorem d36_107 : decode k36_ 107 = .ok (.putfield 89, 3) := by decide +kernel
theorem d36_110 : decode k36_ 110 = .ok (.return_, 1) := by decide +kernel
theorem d37_0 : decode k37_ 0 = .ok (.aconst_null, 1) := by decide +kernel
theorem d37_1 : decode k37_ 1 = .ok (.astore_n 3, 1) := by decide +kernel
theorem d37_2 : decode k37_ 2 = .ok (.aconst_null, 1) := by decide +kernel
theorem d37_3 : decode k37_ 3 = .ok (.astore 4, 2) := by decide +kernel
theorem d37_5 : decode k37_ 5 = .ok (.aload_n 2, 1) := by decide +kernel
theorem d37_6 : decode k37_ 6 = .ok (.invokeinterface 65 1, 5) := by decide +kernel
theorem d37_11 : decode k37_ 11 = .ok (.astore 5, 2) := by decide +kernel
theorem d37_13 : decode k37_ 13 = .ok (.aload 5, 2) := by decide +kernel
theorem d37_15 : decode k37_ 15 = .ok (.invokeinterface 69 1, 5) := by decide +kernel
theorem d37_20 : decode k37_ 20 = .ok (.ifCond .eq 50, 3) := by decide +kernel
theorem d37_23 : decode k37_ 23 = .ok (.aload 5, 2) := by decide +kernel
theorem d37_25 : decode k37_ 25 = .ok (.invokeinterface 74 1, 5) := by decide +kernel
theorem d37_30 : decode k37_ 30 = .ok (.checkcast 105, 3) := by decide +kernel
theorem d37_33 : decode k37_ 33 = .ok (.astore 6, 2) := by decide +kernel
theorem d37_35 : decode k37_ 35 = .ok (.aload 6, 2) := by decide +kernel
theorem d37_37 : decode k37_ 37 = .ok (.invokevirtual 104, 3) := by decide +kernel
theorem d37_40 : decode k37_ 40 = .ok (.getstatic 108, 3) := by decide +kernel
theorem d37_43 : decode k37_ 43 = .ok (.if_acmp .ne 9, 3) := by decide +kernel
theorem d37_46 : decode k37_ 46 = .ok (.aload 6, 2) := by decide +kernel
theorem d37_48 : decode k37_ 48 = .ok (.astore_n 3, 1) := by decide +kernel
theorem d37_49 : decode k37_ 49 = .ok (.goto 18, 3) := by decide +kernel
theorem d37_52 : decode k37_ 52 = .ok (.aload 6, 2) := by decide +kernel
theorem d37_54 : decode k37_ 54 = .ok (.invokevirtual 104, 3) := by decide +kernel
theorem d37_57 : decode k37_ 57 = .ok (.getstatic 119, 3) := by decide +kernel
theorem d37_60 : decode k37_ 60 = .ok (.if_acmp .ne 7, 3) := by decide +kernel
theorem d37_67 : decode k37_ 67 = .ok (.goto (-54), 3) := by decide +kernel
theorem d37_70 : decode k37_ 70 = .ok (.aload_n 3, 1) := by decide +kernel
theorem d37_71 : decode k37_ 71 = .ok (.ifnull 187, 3) := by decide +kernel
theorem d37_74 : decode k37_ 74 = .ok (.aload 4, 2) := by decide +kernel
theorem d37_76 : decode k37_ 76 = .ok (.ifnull 182, 3) := by decide +kernel
theorem d37_258 : decode k37_ 258 = .ok (.aload_n 0, 1) := by decide +kernel
theorem d37_259 : decode k37_ 259 = .ok (.aload_n 1, 1) := by decide +kernel
theorem d37_260 : decode k37_ 260 = .ok (.aload 4, 2) := by decide +kernel
theorem d37_262 : decode k37_ 262 = .ok (.ifnonnull 9, 3) := by decide +kernel
theorem d37_265 : decode k37_ 265 = .ok (.getstatic 108, 3) := by decide +kernel
theorem d37_268 : decode k37_ 268 = .ok (.goto 6, 3) := by decide +kernel
theorem d37_274 : decode k37_ 274 = .ok (.aload_n 2, 1) := by decide +kernel
theorem d37_275 : decode k37_ 275 = .ok (.invokevirtual 193, 3) := by decide +kernel
theorem d37_278 : decode k37_ 278 = .ok (.areturn, 1) := by decide +kernel
theorem d38_0 : decode k38_ 0 = .ok (.aload_n 0, 1) := by decide +kernel
theorem d38_1 : decode k38_ 1 = .ok (.getfield 25, 3) := by decide +kernel
theorem d38_4 : decode k38_ 4 = .ok (.areturn, 1) := by decide +kernel
theorem d39_0 : decode k39_ 0 = .ok (.iconst 0, 1) := by decide +kernel
theorem d39_1 : decode k39_ 1 = .ok (.istore 4, 2) := by decide +kernel
theorem d39_3 : decode k39_ 3 = .ok (.aload_n 3, 1) := by decide +kernel
theorem d39_4 : decode k39_ 4 = .ok (.invokeinterface 65 1, 5) := by decide +kernel
theorem d39_9 : decode k39_ 9 = .ok (.astore 5, 2) := by decide +kernel
theorem d39_11 : decode k39_ 11 = .ok (.aload 5, 2) := by decide +kernel
theorem d39_13 : decode k39_ 13 = .ok (.invokeinterface 69 1, 5) := by decide +kernel
theorem d39_18 : decode k39_ 18 = .ok (.ifCond .eq 37, 3) := by decide +kernel
theorem d39_21 : decode k39_ 21 = .ok (.aload 5, 2) := by decide +kernel
theorem d39_23 : decode k39_ 23 = .ok (.invokeinterface 74 1, 5) := by decide +kernel
theorem d39_28 : decode k39_ 28 = .ok (.checkcast 105, 3) := by decide +kernel
theorem d39_31 : decode k39_ 31 = .ok (.astore 6, 2) := by decide +kernel
theorem d39_33 : decode k39_ 33 = .ok (.iload 4, 2) := by decide +kernel
theorem d39_35 : decode k39_ 35 = .ok (.aload 6, 2) := by decide +kernel
theorem d39_37 : decode k39_ 37 = .ok (.invokevirtual 104, 3) := by decide +kernel
theorem d39_40 : decode k39_ 40 = .ok (.aload_n 2, 1) := by decide +kernel
theorem d39_41 : decode k39_ 41 = .ok (.if_acmp .ne 7, 3) := by decide +kernel
theorem d39_44 : decode k39_ 44 = .ok (.iconst 1, 1) := by decide +kernel
theorem d39_45 : decode k39_ 45 = .ok (.goto 4, 3) := by decide +kernel
theorem d39_48 : decode k39_ 48 = .ok (.iconst 0, 1) := by decide +kernel
theorem d39_49 : decode k39_ 49 = .ok (.iadd, 1) := by decide +kernel
theorem d39_50 : decode k39_ 50 = .ok (.istore 4, 2) := by decide +kernel
theorem d39_52 : decode k39_ 52 = .ok (.goto (-41), 3) := by decide +kernel
theorem d39_55 : decode k39_ 55 = .ok (.aload_n 2, 1) := by decide +kernel
theorem d39_56 : decode k39_ 56 = .ok (.getstatic 108, 3) := by decide +kernel
theorem d39_59 : decode k39_ 59 = .ok (.if_acmp .ne 10, 3) := by decide +kernel
theorem d39_62 : decode k39_ 62 = .ok (.aload_n 0, 1) := by decide +kernel
theorem d39_63 : decode k39_ 63 = .ok (.invokevirtual 116, 3) := by decide +kernel
theorem d39_66 : decode k39_ 66 = .ok (.goto 7, 3) := by decide +kernel
theorem d39_73 : decode k39_ 73 = .ok (.astore 5, 2) := by decide +kernel
theorem d39_75 : decode k39_ 75 = .ok (.aconst_null, 1) := by decide +kernel
theorem d39_76 : decode k39_ 76 = .ok (.astore 6, 2) := by decide +kernel
theorem d39_78 : decode k39_ 78 = .ok (.iconst 0, 1) := by decide +kernel
theorem d39_79 : decode k39_ 79 = .ok (.istore 7, 2) := by decide +kernel
theorem d39_81 : decode k39_ 81 = .ok (.aload 5, 2) := by decide +kernel
theorem d39_83 : decode k39_ 83 = .ok (.ifnull 28, 3) := by decide +kernel
theorem d39_86 : decode k39_ 86 = .ok (.aload 5, 2) := by decide +kernel
theorem d39_88 : decode k39_ 88 = .ok (.invokevirtual 197, 3) := by decide +kernel
theorem d39_91 : decode k39_ 91 = .ok (.ifCond .eq 20, 3) := by decide +kernel
theorem d39_94 : decode k39_ 94 = .ok (.iinc 7 1, 3) := by decide +kernel
theorem d39_97 : decode k39_ 97 = .ok (.aload 5, 2) := by decide +kernel
theorem d39_99 : decode k39_ 99 = .ok (.astore 6, 2) := by decide +kernel
theorem d39_101 : decode k39_ 101 = .ok (.aload 5, 2) := by decide +kernel
theorem d39_103 : decode k39_ 103 = .ok (.invokestatic 200, 3) := by decide +kernel
theorem d39_106 : decode k39_ 106 = .ok (.astore 5, 2) := by decide +kernel
theorem d39_108 : decode k39_ 108 = .ok (.goto (-27), 3) := by decide +kernel
theorem d39_111 : decode k39_ 111 = .ok (.aload_n 0, 1) := by decide +kernel
theorem d39_112 : decode k39_ 112 = .ok (.getfield 19, 3) := by decide +kernel
theorem d39_115 : decode k39_ 115 = .ok (.invokevirtual 186, 3) := by decide +kernel
theorem d39_118 : decode k39_ 118 = .ok (.ifCond .le 62, 3) := by decide +kernel
theorem d39_121 : decode k39_ 121 = .ok (.aload 5, 2) := by decide +kernel
theorem d39_123 : decode k39_ 123 = .ok (.ifnonnull 13, 3) := by decide +kernel
theorem d39_126 : decode k39_ 126 = .ok (.aload_n 0, 1) := by decide +kernel
theorem d39_127 : decode k39_ 127 = .ok (.aload_n 1, 1) := by decide +kernel
theorem d39_128 : decode k39_ 128 = .ok (.aload_n 2, 1) := by decide +kernel
theorem d39_129 : decode k39_ 129 = .ok (.invokevirtual 204, 3) := by decide +kernel
theorem d39_132 : decode k39_ 132 = .ok (.invokestatic 33, 3) := by decide +kernel
theorem d39_135 : decode k39_ 135 = .ok (.areturn, 1) := by decide +kernel
theorem d39_180 : decode k39_ 180 = .ok (.aload 5, 2) := by decide +kernel
theorem d39_182 : decode k39_ 182 = .ok (.ifnonnull 14, 3) := by decide +kernel
theorem d39_185 : decode k39_ 185 = .ok (.aload_n 0, 1) := by decide +kernel
theorem d39_186 : decode k39_ 186 = .ok (.aload_n 1, 1) := by decide +kernel
theorem d39_187 : decode k39_ 187 = .ok (.aload 6, 2) := by decide +kernel
theorem d39_189 : decode k39_ 189 = .ok (.invokevirtual 215, 3) := by decide +kernel
theorem d39_192 : decode k39_ 192 = .ok (.invokestatic 33, 3) := by decide +kernel
theorem d39_195 : decode k39_ 195 = .ok (.areturn, 1) := by decide +kernel
theorem d40_0 : decode k40_ 0 = .ok (.aload_n 0, 1) := by decide +kernel
theorem d40_1 : decode k40_ 1 = .ok (.getfield 16, 3) := by decide +kernel
theorem d40_4 : decode k40_ 4 = .ok (.aload_n 0, 1) := by decide +kernel
theorem d40_5 : decode k40_ 5 = .ok (.getfield 19, 3) := by decide +kernel
theorem d40_8 : decode k40_ 8 = .ok (.invokevirtual 59, 3) := by decide +kernel
theorem d40_11 : decode k40_ 11 = .ok (.checkcast 60, 3) := by decide +kernel
theorem d40_14 : decode k40_ 14 = .ok (.areturn, 1) := by decide +kernel
theorem d41_0 : decode k41_ 0 = .ok (.aload_n 0, 1) := by decide +kernel
theorem d41_1 : decode k41_ 1 = .ok (.getfield 32, 3) := by decide +kernel
theorem d41_4 : decode k41_ 4 = .ok (.ireturn, 1) := by decide +kernel
theorem d42_0 : decode k42_ 0 = .ok (.aload_n 2, 1) := by decide +kernel
theorem d42_1 : decode k42_ 1 = .ok (.getstatic 108, 3) := by decide +kernel
theorem d42_4 : decode k42_ 4 = .ok (.if_acmp .ne 28, 3) := by decide +kernel
theorem d42_7 : decode k42_ 7 = .ok (.aload_n 0, 1) := by decide +kernel
theorem d42_8 : decode k42_ 8 = .ok (.aload_n 0, 1) := by decide +kernel
theorem d42_9 : decode k42_ 9 = .ok (.invokevirtual 143, 3) := by decide +kernel
theorem d42_12 : decode k42_ 12 = .ok (.getstatic 108, 3) := by decide +kernel
theorem d42_15 : decode k42_ 15 = .ok (.invokevirtual 160, 3) := by decide +kernel
theorem d42_18 : decode k42_ 18 = .ok (.astore_n 3, 1) := by decide +kernel
theorem d42_19 : decode k42_ 19 = .ok (.aload_n 0, 1) := by decide +kernel
theorem d42_20 : decode k42_ 20 = .ok (.aload_n 3, 1) := by decide +kernel
theorem d42_21 : decode k42_ 21 = .ok (.getstatic 119, 3) := by decide +kernel
theorem d42_24 : decode k42_ 24 = .ok (.invokevirtual 160, 3) := by decide +kernel
theorem d42_27 : decode k42_ 27 = .ok (.astore 4, 2) := by decide +kernel
theorem d42_29 : decode k42_ 29 = .ok (.goto 22, 3) := by decide +kernel
theorem d42_51 : decode k42_ 51 = .ok (.aload_n 0, 1) := by decide +kernel
theorem d42_52 : decode k42_ 52 = .ok (.getfield 19, 3) := by decide +kernel
theorem d42_55 : decode k42_ 55 = .ok (.invokevirtual 186, 3) := by decide +kernel
theorem d42_58 : decode k42_ 58 = .ok (.istore 5, 2) := by decide +kernel
theorem d42_60 : decode k42_ 60 = .ok (.iload 5, 2) := by decide +kernel
theorem d42_62 : decode k42_ 62 = .ok (.ifCond .le 20, 3) := by decide +kernel
theorem d42_65 : decode k42_ 65 = .ok (.aload_n 0, 1) := by decide +kernel
theorem d42_66 : decode k42_ 66 = .ok (.getfield 19, 3) := by decide +kernel
theorem d42_69 : decode k42_ 69 = .ok (.invokevirtual 122, 3) := by decide +kernel
theorem d42_72 : decode k42_ 72 = .ok (.aload_n 3, 1) := by decide +kernel
theorem d42_73 : decode k42_ 73 = .ok (.invokestatic 164, 3) := by decide +kernel
theorem d42_76 : decode k42_ 76 = .ok (.iinc 5 (-1), 3) := by decide +kernel
theorem d42_79 : decode k42_ 79 = .ok (.goto (-19), 3) := by decide +kernel
theorem d42_82 : decode k42_ 82 = .ok (.aload_n 1, 1) := by decide +kernel
theorem d42_83 : decode k42_ 83 = .ok (.aload 4, 2) := by decide +kernel
theorem d42_85 : decode k42_ 85 = .ok (.invokestatic 29, 3) := by decide +kernel
theorem d42_88 : decode k42_ 88 = .ok (.return_, 1) := by decide +kernel
theorem d43_0 : decode k43_ 0 = .ok (.aload_n 0, 1) := by decide +kernel
theorem d43_1 : decode k43_ 1 = .ok (.getfield 16, 3) := by decide +kernel
theorem d43_4 : decode k43_ 4 = .ok (.aload_n 0, 1) := by decide +kernel
theorem d43_5 : decode k43_ 5 = .ok (.getfield 23, 3) := by decide +kernel
theorem d43_8 : decode k43_ 8 = .ok (.invokevirtual 59, 3) := by decide +kernel
theorem d43_11 : decode k43_ 11 = .ok (.checkcast 60, 3) := by decide +kernel
theorem d43_14 : decode k43_ 14 = .ok (.areturn, 1) := by decide +kernel
theorem d44_0 : decode k44_ 0 = .ok (.aload_n 0, 1) := by decide +kernel
theorem d44_1 : decode k44_ 1 = .ok (.aload_n 2, 1) := by decide +kernel
theorem d44_2 : decode k44_ 2 = .ok (.invokevirtual 72, 3) := by decide +kernel
theorem d44_5 : decode k44_ 5 = .ok (.astore_n 3, 1) := by decide +kernel
theorem d44_6 : decode k44_ 6 = .ok (.aload_n 3, 1) := by decide +kernel
theorem d44_7 : decode k44_ 7 = .ok (.aload_n 1, 1) := by decide +kernel
theorem d44_8 : decode k44_ 8 = .ok (.ifnonnull 7, 3) := by decide +kernel
theorem d44_11 : decode k44_ 11 = .ok (.iconst (-1), 1) := by decide +kernel
theorem d44_12 : decode k44_ 12 = .ok (.goto 7, 3) := by decide +kernel
theorem d44_15 : decode k44_ 15 = .ok (.aload_n 1, 1) := by decide +kernel
theorem d44_16 : decode k44_ 16 = .ok (.getfield 69, 3) := by decide +kernel
theorem d44_19 : decode k44_ 19 = .ok (.putfield 76, 3) := by decide +kernel
theorem d44_22 : decode k44_ 22 = .ok (.aload_n 3, 1) := by decide +kernel
theorem d44_23 : decode k44_ 23 = .ok (.aload_n 1, 1) := by decide +kernel
theorem d44_24 : decode k44_ 24 = .ok (.ifnonnull 10, 3) := by decide +kernel
theorem d44_27 : decode k44_ 27 = .ok (.aload_n 0, 1) := by decide +kernel
theorem d44_28 : decode k44_ 28 = .ok (.getfield 19, 3) := by decide +kernel
theorem d44_31 : decode k44_ 31 = .ok (.goto 7, 3) := by decide +kernel
theorem d44_34 : decode k44_ 34 = .ok (.aload_n 1, 1) := by decide +kernel
theorem d44_35 : decode k44_ 35 = .ok (.getfield 79, 3) := by decide +kernel
theorem d44_38 : decode k44_ 38 = .ok (.putfield 79, 3) := by decide +kernel
theorem d44_41 : decode k44_ 41 = .ok (.aload_n 3, 1) := by decide +kernel
theorem d44_42 : decode k44_ 42 = .ok (.getfield 76, 3) := by decide +kernel
theorem d44_45 : decode k44_ 45 = .ok (.iconst (-1), 1) := by decide +kernel
theorem d44_46 : decode k44_ 46 = .ok (.if_icmp .ne 14, 3) := by decide +kernel
theorem d44_49 : decode k44_ 49 = .ok (.aload_n 0, 1) := by decide +kernel
theorem d44_50 : decode k44_ 50 = .ok (.aload_n 3, 1) := by decide +kernel
theorem d44_51 : decode k44_ 51 = .ok (.getfield 69, 3) := by decide +kernel
theorem d44_54 : decode k44_ 54 = .ok (.putfield 19, 3) := by decide +kernel
theorem d44_57 : decode k44_ 57 = .ok (.goto 24, 3) := by decide +kernel
theorem d44_60 : decode k44_ 60 = .ok (.aload_n 0, 1) := by decide +kernel
theorem d44_61 : decode k44_ 61 = .ok (.getfield 16, 3) := by decide +kernel
theorem d44_64 : decode k44_ 64 = .ok (.aload_n 3, 1) := by decide +kernel
theorem d44_65 : decode k44_ 65 = .ok (.getfield 76, 3) := by decide +kernel
theorem d44_68 : decode k44_ 68 = .ok (.invokevirtual 59, 3) := by decide +kernel
theorem d44_71 : decode k44_ 71 = .ok (.checkcast 60, 3) := by decide +kernel
theorem d44_74 : decode k44_ 74 = .ok (.aload_n 3, 1) := by decide +kernel
theorem d44_75 : decode k44_ 75 = .ok (.getfield 69, 3) := by decide +kernel
theorem d44_78 : decode k44_ 78 = .ok (.putfield 79, 3) := by decide +kernel
theorem d44_81 : decode k44_ 81 = .ok (.aload_n 3, 1) := by decide +kernel
theorem d44_82 : decode k44_ 82 = .ok (.getfield 79, 3) := by decide +kernel
theorem d44_85 : decode k44_ 85 = .ok (.iconst (-1), 1) := by decide +kernel
theorem d44_86 : decode k44_ 86 = .ok (.if_icmp .ne 14, 3) := by decide +kernel
theorem d44_89 : decode k44_ 89 = .ok (.aload_n 0, 1) := by decide +kernel
theorem d44_90 : decode k44_ 90 = .ok (.aload_n 3, 1) := by decide +kernel
theorem d44_91 : decode k44_ 91 = .ok (.getfield 69, 3) := by decide +kernel
theorem d44_94 : decode k44_ 94 = .ok (.putfield 23, 3) := by decide +kernel
theorem d44_97 : decode k44_ 97 = .ok (.goto 24, 3) := by decide +kernel
theorem d44_121 : decode k44_ 121 = .ok (.aload_n 3, 1) := by decide +kernel
theorem d44_122 : decode k44_ 122 = .ok (.areturn, 1) := by decide +kernel
theorem d45_0 : decode k45_ 0 = .ok (.aload_n 0, 1) := by decide +kernel
theorem d45_1 : decode k45_ 1 = .ok (.getfield 21, 3) := by decide +kernel
theorem d45_4 : decode k45_ 4 = .ok (.getfield 35, 3) := by decide +kernel
theorem d45_7 : decode k45_ 7 = .ok (.aload_n 0, 1) := by decide +kernel
theorem d45_8 : decode k45_ 8 = .ok (.getfield 9, 3) := by decide +kernel
theorem d45_11 : decode k45_ 11 = .ok (.invokevirtual 39, 3) := by decide +kernel
theorem d45_14 : decode k45_ 14 = .ok (.checkcast 45, 3) := by decide +kernel
theorem d45_17 : decode k45_ 17 = .ok (.areturn, 1) := by decide +kernel
theorem d46_0 : decode k46_ 0 = .ok (.aload_n 0, 1) := by decide +kernel
theorem d46_1 : decode k46_ 1 = .ok (.getfield 39, 3) := by decide +kernel
theorem d46_4 : decode k46_ 4 = .ok (.areturn, 1) := by decide +kernel
theorem d47_0 : decode k47_ 0 = .ok (.aload_n 0, 1) := by decide +kernel
theorem d47_1 : decode k47_ 1 = .ok (.dup, 1) := by decide +kernel
theorem d47_2 : decode k47_ 2 = .ok (.getfield 138, 3) := by decide +kernel
theorem d47_5 : decode k47_ 5 = .ok (.iload_n 1, 1) := by decide +kernel
theorem d47_6 : decode k47_ 6 = .ok (.iadd, 1) := by decide +kernel
theorem d47_7 : decode k47_ 7 = .ok (.putfield 138, 3) := by decide +kernel
theorem d47_10 : decode k47_ 10 = .ok (.return_, 1) := by decide +kernel
theorem d48_0 : decode k48_ 0 = .ok (.aload_n 0, 1) := by decide +kernel
theorem d48_1 : decode k48_ 1 = .ok (.invokeinterface 144 1, 5) := by decide +kernel
theorem d48_6 : decode k48_ 6 = .ok (.astore_n 1, 1) := by decide +kernel
theorem d48_7 : decode k48_ 7 = .ok (.aload_n 1, 1) := by decide +kernel
theorem d48_8 : decode k48_ 8 = .ok (.invokeinterface 148 1, 5) := by decide +kernel
theorem d48_13 : decode k48_ 13 = .ok (.ifCond .eq 21, 3) := by decide +kernel
theorem d48_16 : decode k48_ 16 = .ok (.aload_n 1, 1) := by decide +kernel
theorem d48_17 : decode k48_ 17 = .ok (.invokeinterface 154 1, 5) := by decide +kernel
theorem d48_22 : decode k48_ 22 = .ok (.checkcast 60, 3) := by decide +kernel
theorem d48_25 : decode k48_ 25 = .ok (.astore_n 2, 1) := by decide +kernel
theorem d48_26 : decode k48_ 26 = .ok (.aload_n 2, 1) := by decide +kernel
theorem d48_27 : decode k48_ 27 = .ok (.iconst 0, 1) := by decide +kernel
theorem d48_28 : decode k48_ 28 = .ok (.putfield 163, 3) := by decide +kernel
theorem d48_31 : decode k48_ 31 = .ok (.goto (-24), 3) := by decide +kernel
theorem d48_34 : decode k48_ 34 = .ok (.return_, 1) := by decide +kernel
theorem d49_0 : decode k49_ 0 = .ok (.aload_n 0, 1) := by decide +kernel
theorem d49_1 : decode k49_ 1 = .ok (.getfield 32, 3) := by decide +kernel
theorem d49_4 : decode k49_ 4 = .ok (.aload_n 0, 1) := by decide +kernel
theorem d49_5 : decode k49_ 5 = .ok (.getfield 29, 3) := by decide +kernel
theorem d49_8 : decode k49_ 8 = .ok (.if_icmp .ne 7, 3) := by decide +kernel
theorem d49_11 : decode k49_ 11 = .ok (.iconst 1, 1) := by decide +kernel
theorem d49_12 : decode k49_ 12 = .ok (.goto 4, 3) := by decide +kernel
theorem d49_16 : decode k49_ 16 = .ok (.ireturn, 1) := by decide +kernel
theorem d50_0 : decode k50_ 0 = .ok (.aload_n 0, 1) := by decide +kernel
theorem d50_1 : decode k50_ 1 = .ok (.invokevirtual 104, 3) := by decide +kernel
theorem d50_4 : decode k50_ 4 = .ok (.getstatic 108, 3) := by decide +kernel
theorem d50_7 : decode k50_ 7 = .ok (.if_acmp .ne 13, 3) := by decide +kernel
theorem d50_10 : decode k50_ 10 = .ok (.aload_n 0, 1) := by decide +kernel
theorem d50_11 : decode k50_ 11 = .ok (.invokevirtual 111, 3) := by decide +kernel
theorem d50_14 : decode k50_ 14 = .ok (.invokevirtual 111, 3) := by decide +kernel
theorem d50_17 : decode k50_ 17 = .ok (.goto 10, 3) := by decide +kernel
theorem d50_27 : decode k50_ 27 = .ok (.areturn, 1) := by decide +kernel
theorem d51_0 : decode k51_ 0 = .ok (.aload_n 0, 1) := by decide +kernel
theorem d51_1 : decode k51_ 1 = .ok (.getfield 21, 3) := by decide +kernel
theorem d51_4 : decode k51_ 4 = .ok (.getfield 53, 3) := by decide +kernel
theorem d51_7 : decode k51_ 7 = .ok (.aload_n 0, 1) := by decide +kernel
theorem d51_8 : decode k51_ 8 = .ok (.getfield 18, 3) := by decide +kernel
theorem d51_11 : decode k51_ 11 = .ok (.invokevirtual 39, 3) := by decide +kernel
theorem d51_14 : decode k51_ 14 = .ok (.checkcast 10, 3) := by decide +kernel
theorem d51_17 : decode k51_ 17 = .ok (.areturn, 1) := by decide +kernel
theorem d52_0 : decode k52_ 0 = .ok (.aload_n 2, 1) := by decide +kernel
theorem d52_1 : decode k52_ 1 = .ok (.invokevirtual 104, 3) := by decide +kernel
theorem d52_4 : decode k52_ 4 = .ok (.getstatic 108, 3) := by decide +kernel
theorem d52_7 : decode k52_ 7 = .ok (.if_acmp .ne 7, 3) := by decide +kernel
theorem d52_10 : decode k52_ 10 = .ok (.iconst 1, 1) := by decide +kernel
theorem d52_11 : decode k52_ 11 = .ok (.goto 4, 3) := by decide +kernel
theorem d52_15 : decode k52_ 15 = .ok (.istore_n 3, 1) := by decide +kernel
theorem d52_16 : decode k52_ 16 = .ok (.aload_n 2, 1) := by decide +kernel
theorem d52_17 : decode k52_ 17 = .ok (.invokevirtual 186, 3) := by decide +kernel
theorem d52_20 : decode k52_ 20 = .ok (.ifCond .ne 25, 3) := by decide +kernel
theorem d52_45 : decode k52_ 45 = .ok (.aload_n 2, 1) := by decide +kernel
theorem d52_46 : decode k52_ 46 = .ok (.invokevirtual 197, 3) := by decide +kernel
theorem d52_49 : decode k52_ 49 = .ok (.ifCond .eq 14, 3) := by decide +kernel
theorem d52_52 : decode k52_ 52 = .ok (.aload_n 1, 1) := by decide +kernel
theorem d52_53 : decode k52_ 53 = .ok (.aload_n 2, 1) := by decide +kernel
theorem d52_54 : decode k52_ 54 = .ok (.invokestatic 212, 3) := by decide +kernel
theorem d52_57 : decode k52_ 57 = .ok (.invokestatic 29, 3) := by decide +kernel
theorem d52_60 : decode k52_ 60 = .ok (.goto 84, 3) := by decide +kernel
theorem d52_144 : decode k52_ 144 = .ok (.return_, 1) := by decide +kernel
theorem d53_0 : decode k53_ 0 = .ok (.aload_n 0, 1) := by decide +kernel
theorem d53_1 : decode k53_ 1 = .ok (.invokevirtual 104, 3) := by decide +kernel
theorem d53_4 : decode k53_ 4 = .ok (.getstatic 108, 3) := by decide +kernel
theorem d53_7 : decode k53_ 7 = .ok (.if_acmp .ne 10, 3) := by decide +kernel
theorem d53_10 : decode k53_ 10 = .ok (.aload_n 0, 1) := by decide +kernel
theorem d53_11 : decode k53_ 11 = .ok (.invokevirtual 111, 3) := by decide +kernel
theorem d53_14 : decode k53_ 14 = .ok (.goto 7, 3) := by decide +kernel
theorem d53_21 : decode k53_ 21 = .ok (.areturn, 1) := by decide +kernel
theorem d54_0 : decode k54_ 0 = .ok (.iload_n 2, 1) := by decide +kernel
theorem d54_1 : decode k54_ 1 = .ok (.ifCond .eq 14, 3) := by decide +kernel
theorem d54_4 : decode k54_ 4 = .ok (.iload_n 3, 1) := by decide +kernel
theorem d54_5 : decode k54_ 5 = .ok (.iconst 1, 1) := by decide +kernel
theorem d54_6 : decode k54_ 6 = .ok (.isub, 1) := by decide +kernel
theorem d54_7 : decode k54_ 7 = .ok (.aload_n 1, 1) := by decide +kernel
theorem d54_8 : decode k54_ 8 = .ok (.invokevirtual 181, 3) := by decide +kernel
theorem d54_11 : decode k54_ 11 = .ok (.isub, 1) := by decide +kernel
theorem d54_12 : decode k54_ 12 = .ok (.goto 7, 3) := by decide +kernel
theorem d54_15 : decode k54_ 15 = .ok (.aload_n 1, 1) := by decide +kernel
theorem d54_16 : decode k54_ 16 = .ok (.invokevirtual 181, 3) := by decide +kernel
theorem d54_19 : decode k54_ 19 = .ok (.ireturn, 1) := by decide +kernel
theorem d55_0 : decode k55_ 0 = .ok (.aload_n 0, 1) := by decide +kernel
theorem d55_1 : decode k55_ 1 = .ok (.getfield 28, 3) := by decide +kernel
theorem d55_4 : decode k55_ 4 = .ok (.ireturn, 1) := by decide +kernel
theorem own_eqv {args : Array Value} {s : State} {a b : Term} {v : Value} (hb : b.eval args s none [] s = some v) (h : (Jvm.Cond.eq a b).value args s none s [] = some true) : a.eval args s none [] s = some v := by
  cases ha : a.eval args s none [] s with
  | none => simp [Cond.value, ha] at h
  | some x => cases x <;> cases v <;> simp [Cond.value, ha, hb] at h ⊢ <;> exact h
theorem own_fld {args : Array Value} {s : State} {t b : Term} {x : Addr} {C f d : String} {v : Value} (ea : t.eval args s none [] s = some (.ref x)) (hb : b.eval args s none [] s = some v) (h : (Jvm.Cond.eq (.field t C f d) b).value args s none s [] = some true) : Fld s s.heap x C f d v :=
  Fld.start ((fld_at ea).symm.trans (own_eqv hb h))
theorem own_enum {args : Array Value} {s : State} {C f d K : String} (hx : (Jvm.Cond.exactly (.static C f d) K).value args s none s [] = some true) (hi : (Jvm.Cond.initialized C).before args s = true) (hl : (Jvm.Cond.laysStatic C f d).before args s = true) :
    ∃ a, (Term.static C f d).eval args s none [] s = some (.ref a) ∧ Exa s s.heap a K ∧ Sta s s.heap C f d (.ref a) := by
  obtain ⟨a, ea⟩ := exa_v hx
  exact ⟨a, ea, Exa.start ea hx, Sta.start ea (Or.inr ⟨hi, hl⟩)⟩
theorem own_arr0 {args : Array Value} {s : State} {t : Term} {ty : FieldType} {a : Addr} (dv : Value) (ev : t.eval args s none [] s = some (.ref a)) (hx : (Jvm.Cond.arrayOf t ty).value args s none s [] = some true) (hl : (Jvm.Cond.eq (.length t) (.int 0)).value args s none s [] = some true) : ∃ k, Arv s s.heap a k ty 0 [] dv := by
  obtain ⟨c, A⟩ := Arr.start ev hx
  have e := own_eqv (Term.int_eval 0) hl
  obtain ⟨a', c', e1, e2, e3⟩ := Term.length_spec e
  cases ev.symm.trans e1
  have ha : s.arrayAt? a = some c := IntBox.arrayAt_of A.1 A.2.1 A.2.2
  cases ha.symm.trans e2
  have hs : c.slots.size = 0 := by
    have h31 : c.slots.size < 2 ^ 31 := by
      simp only [Term.eval, ev, Option.bind_eq_bind, Option.bind_some, ha] at e
      by_cases q : c.slots.size < 2 ^ 31
      · exact q
      · simp [q] at e
    have := congrArg Int32.toInt (Value.int.inj e3)
    rw [len_toInt h31] at this
    have e0 : (0 : Int32).toInt = 0 := rfl
    omega
  exact ⟨c.cls, c, A, rfl, by rw [hs]; rfl, by decide, fun i hi => absurd hi (by omega), fun i hi => absurd hi (by omega)⟩
theorem own_wS {Z : State} {a0 : Array Value} (hw : ∀ d ∈ tables_1, d.before a0 Z = true) : ∀ a ∈ Bundle.stringAtoms, a.before a0 Z = true := fun d hd => by
  simp only [Bundle.stringAtoms, List.mem_cons, List.not_mem_nil, or_false] at hd
  rcases hd with rfl | rfl | rfl | rfl | rfl | rfl | rfl
  · exact (hw _ (List.mem_of_getElem? (i := 142) rfl))
  · exact (hw _ (List.mem_of_getElem? (i := 143) rfl))
  · exact (hw _ (List.mem_of_getElem? (i := 144) rfl))
  · exact (hw _ (List.mem_of_getElem? (i := 145) rfl))
  · exact (hw _ (List.mem_of_getElem? (i := 146) rfl))
  · exact (hw _ (List.mem_of_getElem? (i := 147) rfl))
  · exact (hw _ (List.mem_of_getElem? (i := 148) rfl))
abbrev yy0 : MethodName := (⟨"com/example/graphwarden/graphwarden/Outcome", "applied", "()Lcom/example/graphwarden/graphwarden/Outcome;"⟩ : MethodName)
abbrev yy1 : MethodName := (⟨"com/example/graphwarden/graphwarden/Outcome", "kind", "()Lcom/example/graphwarden/graphwarden/Outcome$Kind;"⟩ : MethodName)
abbrev yy2 : MethodName := (⟨"com/example/graphwarden/graphwarden/chain/ChainPartition", "<init>", "()V"⟩ : MethodName)
abbrev yy3 : MethodName := (⟨"com/example/graphwarden/graphwarden/chain/ChainPartition", "addVertex", "(Lcom/example/graphwarden/graphwarden/partition/OrderedPartition$Vertex;Ljava/util/List;)Lcom/example/graphwarden/graphwarden/Outcome;"⟩ : MethodName)
abbrev yy4 : MethodName := (⟨"com/example/graphwarden/graphwarden/chain/ChainPartition", "batchWeight", "(Lcom/example/graphwarden/graphwarden/partition/OrderedPartition$Vertex;ZI)I"⟩ : MethodName)
abbrev yy5 : MethodName := (⟨"com/example/graphwarden/graphwarden/chain/ChainPartition", "detachedBlock", "(Ljava/lang/Object;)Lcom/example/graphwarden/graphwarden/partition/OrderedPartition$Block;"⟩ : MethodName)
abbrev yy6 : MethodName := (⟨"com/example/graphwarden/graphwarden/chain/ChainPartition", "first", "()Lcom/example/graphwarden/graphwarden/partition/OrderedPartition$Block;"⟩ : MethodName)
abbrev yy7 : MethodName := (⟨"com/example/graphwarden/graphwarden/chain/ChainPartition", "further", "(Lcom/example/graphwarden/graphwarden/partition/OrderedPartition$Block;)Lcom/example/graphwarden/graphwarden/partition/OrderedPartition$Block;"⟩ : MethodName)
abbrev yy8 : MethodName := (⟨"com/example/graphwarden/graphwarden/chain/ChainPartition", "insert", "(Lcom/example/graphwarden/graphwarden/partition/OrderedPartition$Vertex;Ljava/util/List;)Lcom/example/graphwarden/graphwarden/Outcome;"⟩ : MethodName)
abbrev yy9 : MethodName := (⟨"com/example/graphwarden/graphwarden/chain/ChainPartition", "insertAfter", "(Lcom/example/graphwarden/graphwarden/partition/OrderedPartition$Block;Ljava/lang/Object;)Lcom/example/graphwarden/graphwarden/partition/OrderedPartition$Block;"⟩ : MethodName)
abbrev yy10 : MethodName := (⟨"com/example/graphwarden/graphwarden/chain/ChainPartition", "insertFacing", "(Lcom/example/graphwarden/graphwarden/partition/OrderedPartition$Vertex;Lcom/example/graphwarden/graphwarden/chain/ChainPartition$Kind;Ljava/util/List;)Lcom/example/graphwarden/graphwarden/Outcome;"⟩ : MethodName)
abbrev yy11 : MethodName := (⟨"com/example/graphwarden/graphwarden/chain/ChainPartition", "last", "()Lcom/example/graphwarden/graphwarden/partition/OrderedPartition$Block;"⟩ : MethodName)
abbrev yy12 : MethodName := (⟨"com/example/graphwarden/graphwarden/chain/ChainPartition", "partner", "(Lcom/example/graphwarden/graphwarden/partition/OrderedPartition$Block;)Lcom/example/graphwarden/graphwarden/partition/OrderedPartition$Block;"⟩ : MethodName)
abbrev yy13 : MethodName := (⟨"com/example/graphwarden/graphwarden/chain/ChainPartition", "place", "(Lcom/example/graphwarden/graphwarden/partition/OrderedPartition$Vertex;Lcom/example/graphwarden/graphwarden/partition/OrderedPartition$Block;)V"⟩ : MethodName)
abbrev yy14 : MethodName := (⟨"com/example/graphwarden/graphwarden/chain/ChainPartition", "placeBeyond", "(Lcom/example/graphwarden/graphwarden/partition/OrderedPartition$Vertex;Lcom/example/graphwarden/graphwarden/chain/ChainPartition$Kind;)V"⟩ : MethodName)
abbrev yy15 : MethodName := (⟨"com/example/graphwarden/graphwarden/partition/OrderedPartition", "<init>", "()V"⟩ : MethodName)
abbrev yy16 : MethodName := (⟨"com/example/graphwarden/graphwarden/partition/OrderedPartition", "changeDegree", "(Lcom/example/graphwarden/graphwarden/partition/OrderedPartition$Vertex;I)V"⟩ : MethodName)
abbrev yy17 : MethodName := (⟨"com/example/graphwarden/graphwarden/partition/OrderedPartition", "detachedBlock", "(Ljava/lang/Object;)Lcom/example/graphwarden/graphwarden/partition/OrderedPartition$Block;"⟩ : MethodName)
abbrev yy18 : MethodName := (⟨"com/example/graphwarden/graphwarden/partition/OrderedPartition", "first", "()Lcom/example/graphwarden/graphwarden/partition/OrderedPartition$Block;"⟩ : MethodName)
abbrev yy19 : MethodName := (⟨"com/example/graphwarden/graphwarden/partition/OrderedPartition", "insertAfter", "(Lcom/example/graphwarden/graphwarden/partition/OrderedPartition$Block;Ljava/lang/Object;)Lcom/example/graphwarden/graphwarden/partition/OrderedPartition$Block;"⟩ : MethodName)
abbrev yy20 : MethodName := (⟨"com/example/graphwarden/graphwarden/partition/OrderedPartition", "last", "()Lcom/example/graphwarden/graphwarden/partition/OrderedPartition$Block;"⟩ : MethodName)
abbrev yy21 : MethodName := (⟨"com/example/graphwarden/graphwarden/partition/OrderedPartition", "link", "(Lcom/example/graphwarden/graphwarden/partition/OrderedPartition$Vertex;Lcom/example/graphwarden/graphwarden/partition/OrderedPartition$Block;)V"⟩ : MethodName)
abbrev yy22 : MethodName := (⟨"com/example/graphwarden/graphwarden/partition/OrderedPartition", "mark", "(Lcom/example/graphwarden/graphwarden/partition/OrderedPartition$Vertex;Ljava/util/List;)V"⟩ : MethodName)
abbrev yy23 : MethodName := (⟨"com/example/graphwarden/graphwarden/partition/OrderedPartition", "mark", "(Ljava/util/List;)Ljava/util/List;"⟩ : MethodName)
abbrev yy24 : MethodName := (⟨"com/example/graphwarden/graphwarden/partition/OrderedPartition", "move", "(Lcom/example/graphwarden/graphwarden/partition/OrderedPartition$Vertex;Lcom/example/graphwarden/graphwarden/partition/OrderedPartition$Block;)V"⟩ : MethodName)
abbrev yy25 : MethodName := (⟨"com/example/graphwarden/graphwarden/partition/OrderedPartition", "unlinkVertex", "(Lcom/example/graphwarden/graphwarden/partition/OrderedPartition$Vertex;)V"⟩ : MethodName)
abbrev yy26 : MethodName := (⟨"com/example/graphwarden/graphwarden/partition/OrderedPartition", "unmark", "(Ljava/util/List;)V"⟩ : MethodName)
abbrev yy27 : MethodName := (⟨"com/example/graphwarden/graphwarden/partition/OrderedPartition$Block", "<init>", "(Lcom/example/graphwarden/graphwarden/partition/OrderedPartition;Ljava/lang/Object;)V"⟩ : MethodName)
abbrev yy28 : MethodName := (⟨"com/example/graphwarden/graphwarden/partition/OrderedPartition$Block", "full", "()Z"⟩ : MethodName)
abbrev yy29 : MethodName := (⟨"com/example/graphwarden/graphwarden/partition/OrderedPartition$Block", "head", "()Lcom/example/graphwarden/graphwarden/partition/OrderedPartition$Vertex;"⟩ : MethodName)
abbrev yy30 : MethodName := (⟨"com/example/graphwarden/graphwarden/partition/OrderedPartition$Block", "kind", "()Ljava/lang/Object;"⟩ : MethodName)
abbrev yy31 : MethodName := (⟨"com/example/graphwarden/graphwarden/partition/OrderedPartition$Block", "marked", "()I"⟩ : MethodName)
abbrev yy32 : MethodName := (⟨"com/example/graphwarden/graphwarden/partition/OrderedPartition$Block", "next", "()Lcom/example/graphwarden/graphwarden/partition/OrderedPartition$Block;"⟩ : MethodName)
abbrev yy33 : MethodName := (⟨"com/example/graphwarden/graphwarden/partition/OrderedPartition$Table", "<init>", "()V"⟩ : MethodName)
abbrev yy34 : MethodName := (⟨"com/example/graphwarden/graphwarden/partition/OrderedPartition$Table", "add", "(Ljava/lang/Object;)I"⟩ : MethodName)
abbrev yy35 : MethodName := (⟨"com/example/graphwarden/graphwarden/partition/OrderedPartition$Table", "get", "(I)Ljava/lang/Object;"⟩ : MethodName)
abbrev yy36 : MethodName := (⟨"com/example/graphwarden/graphwarden/partition/OrderedPartition$Vertex", "<init>", "(Ljava/lang/String;)V"⟩ : MethodName)
abbrev yy37 : MethodName := (⟨"com/example/graphwarden/graphwarden/partition/OrderedPartition$Vertex", "block", "()Lcom/example/graphwarden/graphwarden/partition/OrderedPartition$Block;"⟩ : MethodName)
abbrev yy38 : MethodName := (⟨"com/example/graphwarden/graphwarden/partition/OrderedPartition$Vertex", "degree", "()I"⟩ : MethodName)
abbrev yy39 : MethodName := (⟨"java/lang/Math", "max", "(II)I"⟩ : MethodName)
abbrev yy40 : MethodName := (⟨"java/util/AbstractCollection", "<init>", "()V"⟩ : MethodName)
abbrev yy41 : MethodName := (⟨"java/util/AbstractList", "<init>", "()V"⟩ : MethodName)
abbrev yy42 : MethodName := (⟨"java/util/ArrayList", "<init>", "()V"⟩ : MethodName)
abbrev yy43 : MethodName := (⟨"java/util/ArrayList", "add", "(Ljava/lang/Object;)Z"⟩ : MethodName)
abbrev yy44 : MethodName := (⟨"java/util/ArrayList", "add", "(Ljava/lang/Object;[Ljava/lang/Object;I)V"⟩ : MethodName)
abbrev yy45 : MethodName := (⟨"java/util/ArrayList", "elementData", "(I)Ljava/lang/Object;"⟩ : MethodName)
abbrev yy46 : MethodName := (⟨"java/util/ArrayList", "get", "(I)Ljava/lang/Object;"⟩ : MethodName)
abbrev yy47 : MethodName := (⟨"java/util/ArrayList", "grow", "()[Ljava/lang/Object;"⟩ : MethodName)
abbrev yy48 : MethodName := (⟨"java/util/ArrayList", "grow", "(I)[Ljava/lang/Object;"⟩ : MethodName)
abbrev yy49 : MethodName := (⟨"java/util/ArrayList", "isEmpty", "()Z"⟩ : MethodName)
abbrev yy50 : MethodName := (⟨"java/util/ArrayList", "iterator", "()Ljava/util/Iterator;"⟩ : MethodName)
abbrev yy51 : MethodName := (⟨"java/util/ArrayList", "size", "()I"⟩ : MethodName)
abbrev yy52 : MethodName := (⟨"java/util/ArrayList$Itr", "<init>", "(Ljava/util/ArrayList;)V"⟩ : MethodName)
abbrev yy53 : MethodName := (⟨"java/util/ArrayList$Itr", "checkForComodification", "()V"⟩ : MethodName)
abbrev yy54 : MethodName := (⟨"java/util/ArrayList$Itr", "hasNext", "()Z"⟩ : MethodName)
abbrev yy55 : MethodName := (⟨"java/util/ArrayList$Itr", "next", "()Ljava/lang/Object;"⟩ : MethodName)
abbrev yy56 : MethodName := (⟨"java/util/Iterator", "hasNext", "()Z"⟩ : MethodName)
abbrev yy57 : MethodName := (⟨"java/util/Iterator", "next", "()Ljava/lang/Object;"⟩ : MethodName)
abbrev yy58 : MethodName := (⟨"java/util/List", "add", "(Ljava/lang/Object;)Z"⟩ : MethodName)
abbrev yy59 : MethodName := (⟨"java/util/List", "get", "(I)Ljava/lang/Object;"⟩ : MethodName)
abbrev yy60 : MethodName := (⟨"java/util/List", "isEmpty", "()Z"⟩ : MethodName)
abbrev yy61 : MethodName := (⟨"java/util/List", "iterator", "()Ljava/util/Iterator;"⟩ : MethodName)
abbrev yy62 : MethodName := (⟨"java/util/List", "size", "()I"⟩ : MethodName)
abbrev yy63 : MethodName := (⟨"java/util/Objects", "checkIndex", "(II)I"⟩ : MethodName)
abbrev yy64 : MethodName := (⟨"jdk/internal/util/Preconditions", "checkIndex", "(IILjava/util/function/BiFunction;)I"⟩ : MethodName)
abbrev ss0 : String := "com/example/graphwarden/graphwarden/partition/OrderedPartition$Vertex"
abbrev ss1 : String := "com/example/graphwarden/graphwarden/partition/OrderedPartition$Block"
abbrev ss2 : String := "java/util/ArrayList"
abbrev ss3 : String := "size"
abbrev ss4 : String := "java/lang/Object"
abbrev ss5 : String := "java/util/AbstractList"
abbrev ss6 : String := "modCount"
abbrev ss7 : String := "[Ljava/lang/Object;"
abbrev ss8 : String := "com/example/graphwarden/graphwarden/partition/OrderedPartition"
abbrev ss9 : String := "previous"
abbrev ss10 : String := "com/example/graphwarden/graphwarden/partition/OrderedPartition$Table"
abbrev ss11 : String := "next"
abbrev ss12 : String := "elementData"
abbrev ss13 : String := "head"
abbrev ss14 : String := "block"
abbrev ss15 : String := "partition"
abbrev ss16 : String := "Lcom/example/graphwarden/graphwarden/partition/OrderedPartition;"
abbrev ss17 : String := "number"
abbrev ss18 : String := "Lcom/example/graphwarden/graphwarden/partition/OrderedPartition$Table;"
abbrev ss19 : String := "objects"
abbrev ss20 : String := "Ljava/util/List;"
abbrev ss21 : String := "marked"
abbrev ss22 : String := "blocks"
abbrev ss23 : String := "java/util/ArrayList$Itr"
abbrev ss24 : String := "first"
abbrev ss25 : String := "degree"
abbrev ss26 : String := "freeCount"
abbrev ss27 : String := "Ljava/lang/Object;"
abbrev ss28 : String := "com/example/graphwarden/graphwarden/chain/ChainPartition"
abbrev ss29 : String := "com/example/graphwarden/graphwarden/Outcome"
abbrev ss30 : String := "DEFAULTCAPACITY_EMPTY_ELEMENTDATA"
abbrev ss31 : String := "vertices"
abbrev ss32 : String := "com/example/graphwarden/graphwarden/chain/ChainPartition$Kind"
abbrev ss33 : String := "Lcom/example/graphwarden/graphwarden/chain/ChainPartition$Kind;"
abbrev ss34 : String := "isolated"
abbrev ss35 : String := "Lcom/example/graphwarden/graphwarden/partition/OrderedPartition$Block;"
abbrev ss36 : String := "Lcom/example/graphwarden/graphwarden/Outcome;"
abbrev ss37 : String := "Ljava/util/ArrayList;"
abbrev ss38 : String := "Ljava/lang/String;"
abbrev ss39 : String := "expectedModCount"
abbrev ss40 : String := "Lcom/example/graphwarden/graphwarden/Outcome$Kind;"
abbrev ss41 : String := "com/example/graphwarden/graphwarden/Outcome$Kind"
abbrev sl0 (Z : State) : Nat := Jvm.RoadKit.slotOf Z ss0 "name" ss38
abbrev sl1 (Z : State) : Nat := Jvm.RoadKit.slotOf Z ss0 ss11 "I"
abbrev sl2 (Z : State) : Nat := Jvm.RoadKit.slotOf Z ss0 ss14 "I"
abbrev sl3 (Z : State) : Nat := Jvm.RoadKit.slotOf Z ss0 ss15 ss16
abbrev sl4 (Z : State) : Nat := Jvm.RoadKit.slotOf Z ss0 ss17 "I"
abbrev sl5 (Z : State) : Nat := Jvm.RoadKit.slotOf Z ss0 ss25 "I"
abbrev sl6 (Z : State) : Nat := Jvm.RoadKit.slotOf Z ss0 ss9 "I"
abbrev sl7 (Z : State) : Nat := Jvm.RoadKit.slotOf Z ss1 "kind" ss27
abbrev sl8 (Z : State) : Nat := Jvm.RoadKit.slotOf Z ss1 ss11 "I"
abbrev sl9 (Z : State) : Nat := Jvm.RoadKit.slotOf Z ss1 ss13 "I"
abbrev sl10 (Z : State) : Nat := Jvm.RoadKit.slotOf Z ss1 ss15 ss16
abbrev sl11 (Z : State) : Nat := Jvm.RoadKit.slotOf Z ss1 ss21 "I"
abbrev sl12 (Z : State) : Nat := Jvm.RoadKit.slotOf Z ss1 ss3 "I"
abbrev sl13 (Z : State) : Nat := Jvm.RoadKit.slotOf Z ss1 ss9 "I"
abbrev sl14 (Z : State) : Nat := Jvm.RoadKit.slotOf Z ss10 "free" "[I"
abbrev sl15 (Z : State) : Nat := Jvm.RoadKit.slotOf Z ss10 ss19 ss20
abbrev sl16 (Z : State) : Nat := Jvm.RoadKit.slotOf Z ss2 ss12 ss7
abbrev sl17 (Z : State) : Nat := Jvm.RoadKit.slotOf Z ss2 ss3 "I"
abbrev sl18 (Z : State) : Nat := Jvm.RoadKit.slotOf Z ss23 "cursor" "I"
abbrev sl19 (Z : State) : Nat := Jvm.RoadKit.slotOf Z ss23 "lastRet" "I"
abbrev sl20 (Z : State) : Nat := Jvm.RoadKit.slotOf Z ss23 "this$0" ss37
abbrev sl21 (Z : State) : Nat := Jvm.RoadKit.slotOf Z ss23 ss39 "I"
abbrev sl22 (Z : State) : Nat := Jvm.RoadKit.slotOf Z ss28 ss34 ss35
abbrev sl23 (Z : State) : Nat := Jvm.RoadKit.slotOf Z ss5 ss6 "I"
abbrev sl24 (Z : State) : Nat := Jvm.RoadKit.slotOf Z ss8 "last" "I"
abbrev sl25 (Z : State) : Nat := Jvm.RoadKit.slotOf Z ss8 ss22 ss18
abbrev sl26 (Z : State) : Nat := Jvm.RoadKit.slotOf Z ss8 ss24 "I"
abbrev sl27 (Z : State) : Nat := Jvm.RoadKit.slotOf Z ss8 ss31 ss18
abbrev Wd (a0 : Array Value) (Z : State) : Prop := ∀ (i : Nat) {d : Jvm.Cond}, tables_1[i]? = some d → d.before a0 Z = true
theorem pf0 : parseFieldDescriptor "Ljava/util/List;" = some (.object "java/util/List") := by decide +kernel
theorem pf1 : parseFieldDescriptor "[I" = some (.array .int) := by decide +kernel
theorem pf2 : parseFieldDescriptor "I" = some .int := by decide +kernel
theorem pf3 : parseFieldDescriptor "[Ljava/lang/Object;" = some (.array (.object "java/lang/Object")) := by decide +kernel
theorem pf4 : parseFieldDescriptor "Lcom/example/graphwarden/graphwarden/partition/OrderedPartition$Table;" = some (.object "com/example/graphwarden/graphwarden/partition/OrderedPartition$Table") := by decide +kernel
theorem pf5 : parseFieldDescriptor "Lcom/example/graphwarden/graphwarden/partition/OrderedPartition;" = some (.object "com/example/graphwarden/graphwarden/partition/OrderedPartition") := by decide +kernel
theorem pf6 : parseFieldDescriptor "Ljava/lang/Object;" = some (.object "java/lang/Object") := by decide +kernel
theorem pf7 : parseFieldDescriptor "Lcom/example/graphwarden/graphwarden/partition/OrderedPartition$Block;" = some (.object "com/example/graphwarden/graphwarden/partition/OrderedPartition$Block") := by decide +kernel
theorem pf8 : parseFieldDescriptor "Ljava/lang/String;" = some (.object "java/lang/String") := by decide +kernel
theorem pf9 : parseFieldDescriptor "Ljava/util/ArrayList;" = some (.object "java/util/ArrayList") := by decide +kernel
theorem sn0 {Z : State} {a0 : Array Value} (W : Wd a0 Z) : Jvm.RoadKit.slotOf Z "java/util/ArrayList" "elementData" "[Ljava/lang/Object;" ≠ Jvm.RoadKit.slotOf Z "java/util/AbstractList" "modCount" "I" := slot_ne (.inl (W 44 rfl)) (.inl (W 41 rfl)) (by decide) pf3 pf2
theorem sn1 {Z : State} {a0 : Array Value} (W : Wd a0 Z) : Jvm.RoadKit.slotOf Z "java/util/AbstractList" "modCount" "I" ≠ Jvm.RoadKit.slotOf Z "java/util/ArrayList" "elementData" "[Ljava/lang/Object;" := slot_ne (.inl (W 41 rfl)) (.inl (W 44 rfl)) (by decide) pf2 pf3
theorem sn2 {Z : State} {a0 : Array Value} (W : Wd a0 Z) : Jvm.RoadKit.slotOf Z "com/example/graphwarden/graphwarden/partition/OrderedPartition$Table" "free" "[I" ≠ Jvm.RoadKit.slotOf Z "com/example/graphwarden/graphwarden/partition/OrderedPartition$Table" "objects" "Ljava/util/List;" := slot_ne (.inl (W 49 rfl)) (.inr (W 46 rfl)) (by decide) pf1 pf0
theorem sn3 {Z : State} {a0 : Array Value} (W : Wd a0 Z) : Jvm.RoadKit.slotOf Z "com/example/graphwarden/graphwarden/partition/OrderedPartition$Table" "objects" "Ljava/util/List;" ≠ Jvm.RoadKit.slotOf Z "com/example/graphwarden/graphwarden/partition/OrderedPartition$Table" "free" "[I" := slot_ne (.inr (W 46 rfl)) (.inl (W 49 rfl)) (by decide) pf0 pf1
theorem sn4 {Z : State} {a0 : Array Value} (W : Wd a0 Z) : Jvm.RoadKit.slotOf Z "java/util/ArrayList" "size" "I" ≠ Jvm.RoadKit.slotOf Z "java/util/ArrayList" "elementData" "[Ljava/lang/Object;" := slot_ne (.inl (W 103 rfl)) (.inl (W 44 rfl)) (by decide) pf2 pf3
theorem sn5 {Z : State} {a0 : Array Value} (W : Wd a0 Z) : Jvm.RoadKit.slotOf Z "java/util/ArrayList" "size" "I" ≠ Jvm.RoadKit.slotOf Z "java/util/AbstractList" "modCount" "I" := slot_ne (.inl (W 103 rfl)) (.inl (W 41 rfl)) (by decide) pf2 pf2
theorem sn6 {Z : State} {a0 : Array Value} (W : Wd a0 Z) : Jvm.RoadKit.slotOf Z "com/example/graphwarden/graphwarden/partition/OrderedPartition" "blocks" "Lcom/example/graphwarden/graphwarden/partition/OrderedPartition$Table;" ≠ Jvm.RoadKit.slotOf Z "com/example/graphwarden/graphwarden/partition/OrderedPartition" "vertices" "Lcom/example/graphwarden/graphwarden/partition/OrderedPartition$Table;" := slot_ne (.inr (W 53 rfl)) (.inr (W 51 rfl)) (by decide) pf4 pf4
theorem sn7 {Z : State} {a0 : Array Value} (W : Wd a0 Z) : Jvm.RoadKit.slotOf Z "com/example/graphwarden/graphwarden/partition/OrderedPartition" "first" "I" ≠ Jvm.RoadKit.slotOf Z "com/example/graphwarden/graphwarden/partition/OrderedPartition" "vertices" "Lcom/example/graphwarden/graphwarden/partition/OrderedPartition$Table;" := slot_ne (.inl (W 55 rfl)) (.inr (W 51 rfl)) (by decide) pf2 pf4
theorem sn8 {Z : State} {a0 : Array Value} (W : Wd a0 Z) : Jvm.RoadKit.slotOf Z "com/example/graphwarden/graphwarden/partition/OrderedPartition" "first" "I" ≠ Jvm.RoadKit.slotOf Z "com/example/graphwarden/graphwarden/partition/OrderedPartition" "blocks" "Lcom/example/graphwarden/graphwarden/partition/OrderedPartition$Table;" := slot_ne (.inl (W 55 rfl)) (.inr (W 53 rfl)) (by decide) pf2 pf4
theorem sn9 {Z : State} {a0 : Array Value} (W : Wd a0 Z) : Jvm.RoadKit.slotOf Z "com/example/graphwarden/graphwarden/partition/OrderedPartition" "last" "I" ≠ Jvm.RoadKit.slotOf Z "com/example/graphwarden/graphwarden/partition/OrderedPartition" "vertices" "Lcom/example/graphwarden/graphwarden/partition/OrderedPartition$Table;" := slot_ne (.inl (W 57 rfl)) (.inr (W 51 rfl)) (by decide) pf2 pf4
theorem sn10 {Z : State} {a0 : Array Value} (W : Wd a0 Z) : Jvm.RoadKit.slotOf Z "com/example/graphwarden/graphwarden/partition/OrderedPartition" "last" "I" ≠ Jvm.RoadKit.slotOf Z "com/example/graphwarden/graphwarden/partition/OrderedPartition" "blocks" "Lcom/example/graphwarden/graphwarden/partition/OrderedPartition$Table;" := slot_ne (.inl (W 57 rfl)) (.inr (W 53 rfl)) (by decide) pf2 pf4
theorem sn11 {Z : State} {a0 : Array Value} (W : Wd a0 Z) : Jvm.RoadKit.slotOf Z "com/example/graphwarden/graphwarden/partition/OrderedPartition" "last" "I" ≠ Jvm.RoadKit.slotOf Z "com/example/graphwarden/graphwarden/partition/OrderedPartition" "first" "I" := slot_ne (.inl (W 57 rfl)) (.inl (W 55 rfl)) (by decide) pf2 pf2
theorem sn12 {Z : State} {a0 : Array Value} (W : Wd a0 Z) : Jvm.RoadKit.slotOf Z "com/example/graphwarden/graphwarden/partition/OrderedPartition" "vertices" "Lcom/example/graphwarden/graphwarden/partition/OrderedPartition$Table;" ≠ Jvm.RoadKit.slotOf Z "com/example/graphwarden/graphwarden/partition/OrderedPartition" "blocks" "Lcom/example/graphwarden/graphwarden/partition/OrderedPartition$Table;" := slot_ne (.inr (W 51 rfl)) (.inr (W 53 rfl)) (by decide) pf4 pf4
theorem sn13 {Z : State} {a0 : Array Value} (W : Wd a0 Z) : Jvm.RoadKit.slotOf Z "com/example/graphwarden/graphwarden/partition/OrderedPartition" "vertices" "Lcom/example/graphwarden/graphwarden/partition/OrderedPartition$Table;" ≠ Jvm.RoadKit.slotOf Z "com/example/graphwarden/graphwarden/partition/OrderedPartition" "first" "I" := slot_ne (.inr (W 51 rfl)) (.inl (W 55 rfl)) (by decide) pf4 pf2
theorem sn14 {Z : State} {a0 : Array Value} (W : Wd a0 Z) : Jvm.RoadKit.slotOf Z "com/example/graphwarden/graphwarden/partition/OrderedPartition" "vertices" "Lcom/example/graphwarden/graphwarden/partition/OrderedPartition$Table;" ≠ Jvm.RoadKit.slotOf Z "com/example/graphwarden/graphwarden/partition/OrderedPartition" "last" "I" := slot_ne (.inr (W 51 rfl)) (.inl (W 57 rfl)) (by decide) pf4 pf2
theorem sn15 {Z : State} {a0 : Array Value} (W : Wd a0 Z) : Jvm.RoadKit.slotOf Z "com/example/graphwarden/graphwarden/partition/OrderedPartition" "blocks" "Lcom/example/graphwarden/graphwarden/partition/OrderedPartition$Table;" ≠ Jvm.RoadKit.slotOf Z "com/example/graphwarden/graphwarden/partition/OrderedPartition" "first" "I" := slot_ne (.inr (W 53 rfl)) (.inl (W 55 rfl)) (by decide) pf4 pf2
theorem sn16 {Z : State} {a0 : Array Value} (W : Wd a0 Z) : Jvm.RoadKit.slotOf Z "com/example/graphwarden/graphwarden/partition/OrderedPartition" "blocks" "Lcom/example/graphwarden/graphwarden/partition/OrderedPartition$Table;" ≠ Jvm.RoadKit.slotOf Z "com/example/graphwarden/graphwarden/partition/OrderedPartition" "last" "I" := slot_ne (.inr (W 53 rfl)) (.inl (W 57 rfl)) (by decide) pf4 pf2
theorem sn17 {Z : State} {a0 : Array Value} (W : Wd a0 Z) : Jvm.RoadKit.slotOf Z "com/example/graphwarden/graphwarden/partition/OrderedPartition" "first" "I" ≠ Jvm.RoadKit.slotOf Z "com/example/graphwarden/graphwarden/partition/OrderedPartition" "last" "I" := slot_ne (.inl (W 55 rfl)) (.inl (W 57 rfl)) (by decide) pf2 pf2
theorem sn18 {Z : State} {a0 : Array Value} (W : Wd a0 Z) : Jvm.RoadKit.slotOf Z "com/example/graphwarden/graphwarden/partition/OrderedPartition$Table" "freeCount" "I" ≠ Jvm.RoadKit.slotOf Z "com/example/graphwarden/graphwarden/partition/OrderedPartition$Table" "free" "[I" := slot_ne (.inl (W 90 rfl)) (.inl (W 49 rfl)) (by decide) pf2 pf1
theorem sn19 {Z : State} {a0 : Array Value} (W : Wd a0 Z) : Jvm.RoadKit.slotOf Z "com/example/graphwarden/graphwarden/partition/OrderedPartition$Table" "freeCount" "I" ≠ Jvm.RoadKit.slotOf Z "com/example/graphwarden/graphwarden/partition/OrderedPartition$Table" "objects" "Ljava/util/List;" := slot_ne (.inl (W 90 rfl)) (.inr (W 46 rfl)) (by decide) pf2 pf0
theorem sn20 {Z : State} {a0 : Array Value} (W : Wd a0 Z) : Jvm.RoadKit.slotOf Z "com/example/graphwarden/graphwarden/partition/OrderedPartition$Block" "previous" "I" ≠ Jvm.RoadKit.slotOf Z "com/example/graphwarden/graphwarden/partition/OrderedPartition$Block" "head" "I" := slot_ne (.inl (W 77 rfl)) (.inl (W 75 rfl)) (by decide) pf2 pf2
theorem sn21 {Z : State} {a0 : Array Value} (W : Wd a0 Z) : Jvm.RoadKit.slotOf Z "com/example/graphwarden/graphwarden/partition/OrderedPartition$Block" "next" "I" ≠ Jvm.RoadKit.slotOf Z "com/example/graphwarden/graphwarden/partition/OrderedPartition$Block" "head" "I" := slot_ne (.inl (W 79 rfl)) (.inl (W 75 rfl)) (by decide) pf2 pf2
theorem sn22 {Z : State} {a0 : Array Value} (W : Wd a0 Z) : Jvm.RoadKit.slotOf Z "com/example/graphwarden/graphwarden/partition/OrderedPartition$Block" "next" "I" ≠ Jvm.RoadKit.slotOf Z "com/example/graphwarden/graphwarden/partition/OrderedPartition$Block" "previous" "I" := slot_ne (.inl (W 79 rfl)) (.inl (W 77 rfl)) (by decide) pf2 pf2
theorem sn23 {Z : State} {a0 : Array Value} (W : Wd a0 Z) : Jvm.RoadKit.slotOf Z "com/example/graphwarden/graphwarden/partition/OrderedPartition$Block" "partition" "Lcom/example/graphwarden/graphwarden/partition/OrderedPartition;" ≠ Jvm.RoadKit.slotOf Z "com/example/graphwarden/graphwarden/partition/OrderedPartition$Block" "head" "I" := slot_ne (.inr (W 81 rfl)) (.inl (W 75 rfl)) (by decide) pf5 pf2
theorem sn24 {Z : State} {a0 : Array Value} (W : Wd a0 Z) : Jvm.RoadKit.slotOf Z "com/example/graphwarden/graphwarden/partition/OrderedPartition$Block" "partition" "Lcom/example/graphwarden/graphwarden/partition/OrderedPartition;" ≠ Jvm.RoadKit.slotOf Z "com/example/graphwarden/graphwarden/partition/OrderedPartition$Block" "previous" "I" := slot_ne (.inr (W 81 rfl)) (.inl (W 77 rfl)) (by decide) pf5 pf2
theorem sn25 {Z : State} {a0 : Array Value} (W : Wd a0 Z) : Jvm.RoadKit.slotOf Z "com/example/graphwarden/graphwarden/partition/OrderedPartition$Block" "partition" "Lcom/example/graphwarden/graphwarden/partition/OrderedPartition;" ≠ Jvm.RoadKit.slotOf Z "com/example/graphwarden/graphwarden/partition/OrderedPartition$Block" "next" "I" := slot_ne (.inr (W 81 rfl)) (.inl (W 79 rfl)) (by decide) pf5 pf2
theorem sn26 {Z : State} {a0 : Array Value} (W : Wd a0 Z) : Jvm.RoadKit.slotOf Z "com/example/graphwarden/graphwarden/partition/OrderedPartition$Block" "kind" "Ljava/lang/Object;" ≠ Jvm.RoadKit.slotOf Z "com/example/graphwarden/graphwarden/partition/OrderedPartition$Block" "head" "I" := slot_ne (.inr (W 83 rfl)) (.inl (W 75 rfl)) (by decide) pf6 pf2
theorem sn27 {Z : State} {a0 : Array Value} (W : Wd a0 Z) : Jvm.RoadKit.slotOf Z "com/example/graphwarden/graphwarden/partition/OrderedPartition$Block" "kind" "Ljava/lang/Object;" ≠ Jvm.RoadKit.slotOf Z "com/example/graphwarden/graphwarden/partition/OrderedPartition$Block" "previous" "I" := slot_ne (.inr (W 83 rfl)) (.inl (W 77 rfl)) (by decide) pf6 pf2
theorem sn28 {Z : State} {a0 : Array Value} (W : Wd a0 Z) : Jvm.RoadKit.slotOf Z "com/example/graphwarden/graphwarden/partition/OrderedPartition$Block" "kind" "Ljava/lang/Object;" ≠ Jvm.RoadKit.slotOf Z "com/example/graphwarden/graphwarden/partition/OrderedPartition$Block" "next" "I" := slot_ne (.inr (W 83 rfl)) (.inl (W 79 rfl)) (by decide) pf6 pf2
theorem sn29 {Z : State} {a0 : Array Value} (W : Wd a0 Z) : Jvm.RoadKit.slotOf Z "com/example/graphwarden/graphwarden/partition/OrderedPartition$Block" "kind" "Ljava/lang/Object;" ≠ Jvm.RoadKit.slotOf Z "com/example/graphwarden/graphwarden/partition/OrderedPartition$Block" "partition" "Lcom/example/graphwarden/graphwarden/partition/OrderedPartition;" := slot_ne (.inr (W 83 rfl)) (.inr (W 81 rfl)) (by decide) pf6 pf5
theorem sn30 {Z : State} {a0 : Array Value} (W : Wd a0 Z) : Jvm.RoadKit.slotOf Z "com/example/graphwarden/graphwarden/partition/OrderedPartition$Block" "head" "I" ≠ Jvm.RoadKit.slotOf Z "com/example/graphwarden/graphwarden/partition/OrderedPartition$Block" "previous" "I" := slot_ne (.inl (W 75 rfl)) (.inl (W 77 rfl)) (by decide) pf2 pf2
theorem sn31 {Z : State} {a0 : Array Value} (W : Wd a0 Z) : Jvm.RoadKit.slotOf Z "com/example/graphwarden/graphwarden/partition/OrderedPartition$Block" "head" "I" ≠ Jvm.RoadKit.slotOf Z "com/example/graphwarden/graphwarden/partition/OrderedPartition$Block" "next" "I" := slot_ne (.inl (W 75 rfl)) (.inl (W 79 rfl)) (by decide) pf2 pf2
theorem sn32 {Z : State} {a0 : Array Value} (W : Wd a0 Z) : Jvm.RoadKit.slotOf Z "com/example/graphwarden/graphwarden/partition/OrderedPartition$Block" "head" "I" ≠ Jvm.RoadKit.slotOf Z "com/example/graphwarden/graphwarden/partition/OrderedPartition$Block" "partition" "Lcom/example/graphwarden/graphwarden/partition/OrderedPartition;" := slot_ne (.inl (W 75 rfl)) (.inr (W 81 rfl)) (by decide) pf2 pf5
theorem sn33 {Z : State} {a0 : Array Value} (W : Wd a0 Z) : Jvm.RoadKit.slotOf Z "com/example/graphwarden/graphwarden/partition/OrderedPartition$Block" "head" "I" ≠ Jvm.RoadKit.slotOf Z "com/example/graphwarden/graphwarden/partition/OrderedPartition$Block" "kind" "Ljava/lang/Object;" := slot_ne (.inl (W 75 rfl)) (.inr (W 83 rfl)) (by decide) pf2 pf6
theorem sn34 {Z : State} {a0 : Array Value} (W : Wd a0 Z) : Jvm.RoadKit.slotOf Z "com/example/graphwarden/graphwarden/partition/OrderedPartition$Block" "previous" "I" ≠ Jvm.RoadKit.slotOf Z "com/example/graphwarden/graphwarden/partition/OrderedPartition$Block" "next" "I" := slot_ne (.inl (W 77 rfl)) (.inl (W 79 rfl)) (by decide) pf2 pf2
theorem sn35 {Z : State} {a0 : Array Value} (W : Wd a0 Z) : Jvm.RoadKit.slotOf Z "com/example/graphwarden/graphwarden/partition/OrderedPartition$Block" "previous" "I" ≠ Jvm.RoadKit.slotOf Z "com/example/graphwarden/graphwarden/partition/OrderedPartition$Block" "partition" "Lcom/example/graphwarden/graphwarden/partition/OrderedPartition;" := slot_ne (.inl (W 77 rfl)) (.inr (W 81 rfl)) (by decide) pf2 pf5
theorem sn36 {Z : State} {a0 : Array Value} (W : Wd a0 Z) : Jvm.RoadKit.slotOf Z "com/example/graphwarden/graphwarden/partition/OrderedPartition$Block" "previous" "I" ≠ Jvm.RoadKit.slotOf Z "com/example/graphwarden/graphwarden/partition/OrderedPartition$Block" "kind" "Ljava/lang/Object;" := slot_ne (.inl (W 77 rfl)) (.inr (W 83 rfl)) (by decide) pf2 pf6
theorem sn37 {Z : State} {a0 : Array Value} (W : Wd a0 Z) : Jvm.RoadKit.slotOf Z "com/example/graphwarden/graphwarden/partition/OrderedPartition$Block" "next" "I" ≠ Jvm.RoadKit.slotOf Z "com/example/graphwarden/graphwarden/partition/OrderedPartition$Block" "partition" "Lcom/example/graphwarden/graphwarden/partition/OrderedPartition;" := slot_ne (.inl (W 79 rfl)) (.inr (W 81 rfl)) (by decide) pf2 pf5
theorem sn38 {Z : State} {a0 : Array Value} (W : Wd a0 Z) : Jvm.RoadKit.slotOf Z "com/example/graphwarden/graphwarden/partition/OrderedPartition$Block" "next" "I" ≠ Jvm.RoadKit.slotOf Z "com/example/graphwarden/graphwarden/partition/OrderedPartition$Block" "kind" "Ljava/lang/Object;" := slot_ne (.inl (W 79 rfl)) (.inr (W 83 rfl)) (by decide) pf2 pf6
theorem sn39 {Z : State} {a0 : Array Value} (W : Wd a0 Z) : Jvm.RoadKit.slotOf Z "com/example/graphwarden/graphwarden/partition/OrderedPartition$Block" "partition" "Lcom/example/graphwarden/graphwarden/partition/OrderedPartition;" ≠ Jvm.RoadKit.slotOf Z "com/example/graphwarden/graphwarden/partition/OrderedPartition$Block" "kind" "Ljava/lang/Object;" := slot_ne (.inr (W 81 rfl)) (.inr (W 83 rfl)) (by decide) pf5 pf6
theorem sn40 {Z : State} {a0 : Array Value} (W : Wd a0 Z) : Jvm.RoadKit.slotOf Z "java/util/ArrayList" "elementData" "[Ljava/lang/Object;" ≠ Jvm.RoadKit.slotOf Z "java/util/ArrayList" "size" "I" := slot_ne (.inl (W 44 rfl)) (.inl (W 103 rfl)) (by decide) pf3 pf2
theorem sn41 {Z : State} {a0 : Array Value} (W : Wd a0 Z) : Jvm.RoadKit.slotOf Z "java/util/AbstractList" "modCount" "I" ≠ Jvm.RoadKit.slotOf Z "java/util/ArrayList" "size" "I" := slot_ne (.inl (W 41 rfl)) (.inl (W 103 rfl)) (by decide) pf2 pf2
theorem sn42 {Z : State} {a0 : Array Value} (W : Wd a0 Z) : Jvm.RoadKit.slotOf Z "com/example/graphwarden/graphwarden/partition/OrderedPartition$Block" "number" "I" ≠ Jvm.RoadKit.slotOf Z "com/example/graphwarden/graphwarden/partition/OrderedPartition$Block" "kind" "Ljava/lang/Object;" := slot_ne (.inl (W 135 rfl)) (.inr (W 83 rfl)) (by decide) pf2 pf6
theorem sn43 {Z : State} {a0 : Array Value} (W : Wd a0 Z) : Jvm.RoadKit.slotOf Z "com/example/graphwarden/graphwarden/partition/OrderedPartition$Block" "number" "I" ≠ Jvm.RoadKit.slotOf Z "com/example/graphwarden/graphwarden/partition/OrderedPartition$Block" "partition" "Lcom/example/graphwarden/graphwarden/partition/OrderedPartition;" := slot_ne (.inl (W 135 rfl)) (.inr (W 81 rfl)) (by decide) pf2 pf5
theorem sn44 {Z : State} {a0 : Array Value} (W : Wd a0 Z) : Jvm.RoadKit.slotOf Z "com/example/graphwarden/graphwarden/partition/OrderedPartition$Block" "number" "I" ≠ Jvm.RoadKit.slotOf Z "com/example/graphwarden/graphwarden/partition/OrderedPartition$Block" "next" "I" := slot_ne (.inl (W 135 rfl)) (.inl (W 79 rfl)) (by decide) pf2 pf2
theorem sn45 {Z : State} {a0 : Array Value} (W : Wd a0 Z) : Jvm.RoadKit.slotOf Z "com/example/graphwarden/graphwarden/partition/OrderedPartition$Block" "number" "I" ≠ Jvm.RoadKit.slotOf Z "com/example/graphwarden/graphwarden/partition/OrderedPartition$Block" "previous" "I" := slot_ne (.inl (W 135 rfl)) (.inl (W 77 rfl)) (by decide) pf2 pf2
theorem sn46 {Z : State} {a0 : Array Value} (W : Wd a0 Z) : Jvm.RoadKit.slotOf Z "com/example/graphwarden/graphwarden/partition/OrderedPartition$Block" "number" "I" ≠ Jvm.RoadKit.slotOf Z "com/example/graphwarden/graphwarden/partition/OrderedPartition$Block" "head" "I" := slot_ne (.inl (W 135 rfl)) (.inl (W 75 rfl)) (by decide) pf2 pf2
theorem sn47 {Z : State} {a0 : Array Value} (W : Wd a0 Z) : Jvm.RoadKit.slotOf Z "com/example/graphwarden/graphwarden/partition/OrderedPartition$Block" "size" "I" ≠ Jvm.RoadKit.slotOf Z "com/example/graphwarden/graphwarden/partition/OrderedPartition$Block" "kind" "Ljava/lang/Object;" := slot_ne (.inl (W 195 rfl)) (.inr (W 83 rfl)) (by decide) pf2 pf6
theorem sn48 {Z : State} {a0 : Array Value} (W : Wd a0 Z) : Jvm.RoadKit.slotOf Z "com/example/graphwarden/graphwarden/partition/OrderedPartition$Block" "size" "I" ≠ Jvm.RoadKit.slotOf Z "com/example/graphwarden/graphwarden/partition/OrderedPartition$Block" "partition" "Lcom/example/graphwarden/graphwarden/partition/OrderedPartition;" := slot_ne (.inl (W 195 rfl)) (.inr (W 81 rfl)) (by decide) pf2 pf5
theorem sn49 {Z : State} {a0 : Array Value} (W : Wd a0 Z) : Jvm.RoadKit.slotOf Z "com/example/graphwarden/graphwarden/partition/OrderedPartition$Block" "size" "I" ≠ Jvm.RoadKit.slotOf Z "com/example/graphwarden/graphwarden/partition/OrderedPartition$Block" "next" "I" := slot_ne (.inl (W 195 rfl)) (.inl (W 79 rfl)) (by decide) pf2 pf2
theorem sn50 {Z : State} {a0 : Array Value} (W : Wd a0 Z) : Jvm.RoadKit.slotOf Z "com/example/graphwarden/graphwarden/partition/OrderedPartition$Block" "size" "I" ≠ Jvm.RoadKit.slotOf Z "com/example/graphwarden/graphwarden/partition/OrderedPartition$Block" "previous" "I" := slot_ne (.inl (W 195 rfl)) (.inl (W 77 rfl)) (by decide) pf2 pf2
theorem sn51 {Z : State} {a0 : Array Value} (W : Wd a0 Z) : Jvm.RoadKit.slotOf Z "com/example/graphwarden/graphwarden/partition/OrderedPartition$Block" "size" "I" ≠ Jvm.RoadKit.slotOf Z "com/example/graphwarden/graphwarden/partition/OrderedPartition$Block" "head" "I" := slot_ne (.inl (W 195 rfl)) (.inl (W 75 rfl)) (by decide) pf2 pf2
theorem sn52 {Z : State} {a0 : Array Value} (W : Wd a0 Z) : Jvm.RoadKit.slotOf Z "com/example/graphwarden/graphwarden/partition/OrderedPartition$Block" "size" "I" ≠ Jvm.RoadKit.slotOf Z "com/example/graphwarden/graphwarden/partition/OrderedPartition$Block" "number" "I" := slot_ne (.inl (W 195 rfl)) (.inl (W 135 rfl)) (by decide) pf2 pf2
theorem sn53 {Z : State} {a0 : Array Value} (W : Wd a0 Z) : Jvm.RoadKit.slotOf Z "com/example/graphwarden/graphwarden/partition/OrderedPartition$Block" "marked" "I" ≠ Jvm.RoadKit.slotOf Z "com/example/graphwarden/graphwarden/partition/OrderedPartition$Block" "kind" "Ljava/lang/Object;" := slot_ne (.inl (W 298 rfl)) (.inr (W 83 rfl)) (by decide) pf2 pf6
theorem sn54 {Z : State} {a0 : Array Value} (W : Wd a0 Z) : Jvm.RoadKit.slotOf Z "com/example/graphwarden/graphwarden/partition/OrderedPartition$Block" "marked" "I" ≠ Jvm.RoadKit.slotOf Z "com/example/graphwarden/graphwarden/partition/OrderedPartition$Block" "partition" "Lcom/example/graphwarden/graphwarden/partition/OrderedPartition;" := slot_ne (.inl (W 298 rfl)) (.inr (W 81 rfl)) (by decide) pf2 pf5
theorem sn55 {Z : State} {a0 : Array Value} (W : Wd a0 Z) : Jvm.RoadKit.slotOf Z "com/example/graphwarden/graphwarden/partition/OrderedPartition$Block" "marked" "I" ≠ Jvm.RoadKit.slotOf Z "com/example/graphwarden/graphwarden/partition/OrderedPartition$Block" "next" "I" := slot_ne (.inl (W 298 rfl)) (.inl (W 79 rfl)) (by decide) pf2 pf2
theorem sn56 {Z : State} {a0 : Array Value} (W : Wd a0 Z) : Jvm.RoadKit.slotOf Z "com/example/graphwarden/graphwarden/partition/OrderedPartition$Block" "marked" "I" ≠ Jvm.RoadKit.slotOf Z "com/example/graphwarden/graphwarden/partition/OrderedPartition$Block" "previous" "I" := slot_ne (.inl (W 298 rfl)) (.inl (W 77 rfl)) (by decide) pf2 pf2
theorem sn57 {Z : State} {a0 : Array Value} (W : Wd a0 Z) : Jvm.RoadKit.slotOf Z "com/example/graphwarden/graphwarden/partition/OrderedPartition$Block" "marked" "I" ≠ Jvm.RoadKit.slotOf Z "com/example/graphwarden/graphwarden/partition/OrderedPartition$Block" "head" "I" := slot_ne (.inl (W 298 rfl)) (.inl (W 75 rfl)) (by decide) pf2 pf2
theorem sn58 {Z : State} {a0 : Array Value} (W : Wd a0 Z) : Jvm.RoadKit.slotOf Z "com/example/graphwarden/graphwarden/partition/OrderedPartition$Block" "marked" "I" ≠ Jvm.RoadKit.slotOf Z "com/example/graphwarden/graphwarden/partition/OrderedPartition$Block" "number" "I" := slot_ne (.inl (W 298 rfl)) (.inl (W 135 rfl)) (by decide) pf2 pf2
theorem sn59 {Z : State} {a0 : Array Value} (W : Wd a0 Z) : Jvm.RoadKit.slotOf Z "com/example/graphwarden/graphwarden/partition/OrderedPartition$Block" "head" "I" ≠ Jvm.RoadKit.slotOf Z "com/example/graphwarden/graphwarden/partition/OrderedPartition$Block" "number" "I" := slot_ne (.inl (W 75 rfl)) (.inl (W 135 rfl)) (by decide) pf2 pf2
theorem sn60 {Z : State} {a0 : Array Value} (W : Wd a0 Z) : Jvm.RoadKit.slotOf Z "com/example/graphwarden/graphwarden/partition/OrderedPartition$Block" "previous" "I" ≠ Jvm.RoadKit.slotOf Z "com/example/graphwarden/graphwarden/partition/OrderedPartition$Block" "number" "I" := slot_ne (.inl (W 77 rfl)) (.inl (W 135 rfl)) (by decide) pf2 pf2
theorem sn61 {Z : State} {a0 : Array Value} (W : Wd a0 Z) : Jvm.RoadKit.slotOf Z "com/example/graphwarden/graphwarden/partition/OrderedPartition$Block" "next" "I" ≠ Jvm.RoadKit.slotOf Z "com/example/graphwarden/graphwarden/partition/OrderedPartition$Block" "number" "I" := slot_ne (.inl (W 79 rfl)) (.inl (W 135 rfl)) (by decide) pf2 pf2
theorem sn62 {Z : State} {a0 : Array Value} (W : Wd a0 Z) : Jvm.RoadKit.slotOf Z "com/example/graphwarden/graphwarden/partition/OrderedPartition$Block" "partition" "Lcom/example/graphwarden/graphwarden/partition/OrderedPartition;" ≠ Jvm.RoadKit.slotOf Z "com/example/graphwarden/graphwarden/partition/OrderedPartition$Block" "number" "I" := slot_ne (.inr (W 81 rfl)) (.inl (W 135 rfl)) (by decide) pf5 pf2
theorem sn63 {Z : State} {a0 : Array Value} (W : Wd a0 Z) : Jvm.RoadKit.slotOf Z "com/example/graphwarden/graphwarden/partition/OrderedPartition$Block" "kind" "Ljava/lang/Object;" ≠ Jvm.RoadKit.slotOf Z "com/example/graphwarden/graphwarden/partition/OrderedPartition$Block" "number" "I" := slot_ne (.inr (W 83 rfl)) (.inl (W 135 rfl)) (by decide) pf6 pf2
theorem sn64 {Z : State} {a0 : Array Value} (W : Wd a0 Z) : Jvm.RoadKit.slotOf Z "com/example/graphwarden/graphwarden/chain/ChainPartition" "isolated" "Lcom/example/graphwarden/graphwarden/partition/OrderedPartition$Block;" ≠ Jvm.RoadKit.slotOf Z "com/example/graphwarden/graphwarden/partition/OrderedPartition" "last" "I" := slot_ne (.inr (W 137 rfl)) (.inl (W 57 rfl)) (by decide) pf7 pf2
theorem sn65 {Z : State} {a0 : Array Value} (W : Wd a0 Z) : Jvm.RoadKit.slotOf Z "com/example/graphwarden/graphwarden/chain/ChainPartition" "isolated" "Lcom/example/graphwarden/graphwarden/partition/OrderedPartition$Block;" ≠ Jvm.RoadKit.slotOf Z "com/example/graphwarden/graphwarden/partition/OrderedPartition" "first" "I" := slot_ne (.inr (W 137 rfl)) (.inl (W 55 rfl)) (by decide) pf7 pf2
theorem sn66 {Z : State} {a0 : Array Value} (W : Wd a0 Z) : Jvm.RoadKit.slotOf Z "com/example/graphwarden/graphwarden/chain/ChainPartition" "isolated" "Lcom/example/graphwarden/graphwarden/partition/OrderedPartition$Block;" ≠ Jvm.RoadKit.slotOf Z "com/example/graphwarden/graphwarden/partition/OrderedPartition" "blocks" "Lcom/example/graphwarden/graphwarden/partition/OrderedPartition$Table;" := slot_ne (.inr (W 137 rfl)) (.inr (W 53 rfl)) (by decide) pf7 pf4
theorem sn67 {Z : State} {a0 : Array Value} (W : Wd a0 Z) : Jvm.RoadKit.slotOf Z "com/example/graphwarden/graphwarden/chain/ChainPartition" "isolated" "Lcom/example/graphwarden/graphwarden/partition/OrderedPartition$Block;" ≠ Jvm.RoadKit.slotOf Z "com/example/graphwarden/graphwarden/partition/OrderedPartition" "vertices" "Lcom/example/graphwarden/graphwarden/partition/OrderedPartition$Table;" := slot_ne (.inr (W 137 rfl)) (.inr (W 51 rfl)) (by decide) pf7 pf4
theorem sn68 {Z : State} {a0 : Array Value} (W : Wd a0 Z) : Jvm.RoadKit.slotOf Z "com/example/graphwarden/graphwarden/partition/OrderedPartition" "last" "I" ≠ Jvm.RoadKit.slotOf Z "com/example/graphwarden/graphwarden/chain/ChainPartition" "isolated" "Lcom/example/graphwarden/graphwarden/partition/OrderedPartition$Block;" := slot_ne (.inl (W 57 rfl)) (.inr (W 137 rfl)) (by decide) pf2 pf7
theorem sn69 {Z : State} {a0 : Array Value} (W : Wd a0 Z) : Jvm.RoadKit.slotOf Z "com/example/graphwarden/graphwarden/partition/OrderedPartition" "first" "I" ≠ Jvm.RoadKit.slotOf Z "com/example/graphwarden/graphwarden/chain/ChainPartition" "isolated" "Lcom/example/graphwarden/graphwarden/partition/OrderedPartition$Block;" := slot_ne (.inl (W 55 rfl)) (.inr (W 137 rfl)) (by decide) pf2 pf7
theorem sn70 {Z : State} {a0 : Array Value} (W : Wd a0 Z) : Jvm.RoadKit.slotOf Z "com/example/graphwarden/graphwarden/partition/OrderedPartition" "blocks" "Lcom/example/graphwarden/graphwarden/partition/OrderedPartition$Table;" ≠ Jvm.RoadKit.slotOf Z "com/example/graphwarden/graphwarden/chain/ChainPartition" "isolated" "Lcom/example/graphwarden/graphwarden/partition/OrderedPartition$Block;" := slot_ne (.inr (W 53 rfl)) (.inr (W 137 rfl)) (by decide) pf4 pf7
theorem sn71 {Z : State} {a0 : Array Value} (W : Wd a0 Z) : Jvm.RoadKit.slotOf Z "com/example/graphwarden/graphwarden/partition/OrderedPartition" "vertices" "Lcom/example/graphwarden/graphwarden/partition/OrderedPartition$Table;" ≠ Jvm.RoadKit.slotOf Z "com/example/graphwarden/graphwarden/chain/ChainPartition" "isolated" "Lcom/example/graphwarden/graphwarden/partition/OrderedPartition$Block;" := slot_ne (.inr (W 51 rfl)) (.inr (W 137 rfl)) (by decide) pf4 pf7
theorem sn72 {Z : State} {a0 : Array Value} (W : Wd a0 Z) : Jvm.RoadKit.slotOf Z "com/example/graphwarden/graphwarden/partition/OrderedPartition$Vertex" "block" "I" ≠ Jvm.RoadKit.slotOf Z "com/example/graphwarden/graphwarden/partition/OrderedPartition$Vertex" "number" "I" := slot_ne (.inl (W 156 rfl)) (.inl (W 154 rfl)) (by decide) pf2 pf2
theorem sn73 {Z : State} {a0 : Array Value} (W : Wd a0 Z) : Jvm.RoadKit.slotOf Z "com/example/graphwarden/graphwarden/partition/OrderedPartition$Vertex" "previous" "I" ≠ Jvm.RoadKit.slotOf Z "com/example/graphwarden/graphwarden/partition/OrderedPartition$Vertex" "number" "I" := slot_ne (.inl (W 158 rfl)) (.inl (W 154 rfl)) (by decide) pf2 pf2
theorem sn74 {Z : State} {a0 : Array Value} (W : Wd a0 Z) : Jvm.RoadKit.slotOf Z "com/example/graphwarden/graphwarden/partition/OrderedPartition$Vertex" "previous" "I" ≠ Jvm.RoadKit.slotOf Z "com/example/graphwarden/graphwarden/partition/OrderedPartition$Vertex" "block" "I" := slot_ne (.inl (W 158 rfl)) (.inl (W 156 rfl)) (by decide) pf2 pf2
theorem sn75 {Z : State} {a0 : Array Value} (W : Wd a0 Z) : Jvm.RoadKit.slotOf Z "com/example/graphwarden/graphwarden/partition/OrderedPartition$Vertex" "next" "I" ≠ Jvm.RoadKit.slotOf Z "com/example/graphwarden/graphwarden/partition/OrderedPartition$Vertex" "number" "I" := slot_ne (.inl (W 160 rfl)) (.inl (W 154 rfl)) (by decide) pf2 pf2
theorem sn76 {Z : State} {a0 : Array Value} (W : Wd a0 Z) : Jvm.RoadKit.slotOf Z "com/example/graphwarden/graphwarden/partition/OrderedPartition$Vertex" "next" "I" ≠ Jvm.RoadKit.slotOf Z "com/example/graphwarden/graphwarden/partition/OrderedPartition$Vertex" "block" "I" := slot_ne (.inl (W 160 rfl)) (.inl (W 156 rfl)) (by decide) pf2 pf2
theorem sn77 {Z : State} {a0 : Array Value} (W : Wd a0 Z) : Jvm.RoadKit.slotOf Z "com/example/graphwarden/graphwarden/partition/OrderedPartition$Vertex" "next" "I" ≠ Jvm.RoadKit.slotOf Z "com/example/graphwarden/graphwarden/partition/OrderedPartition$Vertex" "previous" "I" := slot_ne (.inl (W 160 rfl)) (.inl (W 158 rfl)) (by decide) pf2 pf2
theorem sn78 {Z : State} {a0 : Array Value} (W : Wd a0 Z) : Jvm.RoadKit.slotOf Z "com/example/graphwarden/graphwarden/partition/OrderedPartition$Vertex" "name" "Ljava/lang/String;" ≠ Jvm.RoadKit.slotOf Z "com/example/graphwarden/graphwarden/partition/OrderedPartition$Vertex" "number" "I" := slot_ne (.inr (W 162 rfl)) (.inl (W 154 rfl)) (by decide) pf8 pf2
theorem sn79 {Z : State} {a0 : Array Value} (W : Wd a0 Z) : Jvm.RoadKit.slotOf Z "com/example/graphwarden/graphwarden/partition/OrderedPartition$Vertex" "name" "Ljava/lang/String;" ≠ Jvm.RoadKit.slotOf Z "com/example/graphwarden/graphwarden/partition/OrderedPartition$Vertex" "block" "I" := slot_ne (.inr (W 162 rfl)) (.inl (W 156 rfl)) (by decide) pf8 pf2
theorem sn80 {Z : State} {a0 : Array Value} (W : Wd a0 Z) : Jvm.RoadKit.slotOf Z "com/example/graphwarden/graphwarden/partition/OrderedPartition$Vertex" "name" "Ljava/lang/String;" ≠ Jvm.RoadKit.slotOf Z "com/example/graphwarden/graphwarden/partition/OrderedPartition$Vertex" "previous" "I" := slot_ne (.inr (W 162 rfl)) (.inl (W 158 rfl)) (by decide) pf8 pf2
theorem sn81 {Z : State} {a0 : Array Value} (W : Wd a0 Z) : Jvm.RoadKit.slotOf Z "com/example/graphwarden/graphwarden/partition/OrderedPartition$Vertex" "name" "Ljava/lang/String;" ≠ Jvm.RoadKit.slotOf Z "com/example/graphwarden/graphwarden/partition/OrderedPartition$Vertex" "next" "I" := slot_ne (.inr (W 162 rfl)) (.inl (W 160 rfl)) (by decide) pf8 pf2
theorem sn82 {Z : State} {a0 : Array Value} (W : Wd a0 Z) : Jvm.RoadKit.slotOf Z "com/example/graphwarden/graphwarden/partition/OrderedPartition$Vertex" "number" "I" ≠ Jvm.RoadKit.slotOf Z "com/example/graphwarden/graphwarden/partition/OrderedPartition$Vertex" "block" "I" := slot_ne (.inl (W 154 rfl)) (.inl (W 156 rfl)) (by decide) pf2 pf2
theorem sn83 {Z : State} {a0 : Array Value} (W : Wd a0 Z) : Jvm.RoadKit.slotOf Z "com/example/graphwarden/graphwarden/partition/OrderedPartition$Vertex" "number" "I" ≠ Jvm.RoadKit.slotOf Z "com/example/graphwarden/graphwarden/partition/OrderedPartition$Vertex" "previous" "I" := slot_ne (.inl (W 154 rfl)) (.inl (W 158 rfl)) (by decide) pf2 pf2
theorem sn84 {Z : State} {a0 : Array Value} (W : Wd a0 Z) : Jvm.RoadKit.slotOf Z "com/example/graphwarden/graphwarden/partition/OrderedPartition$Vertex" "number" "I" ≠ Jvm.RoadKit.slotOf Z "com/example/graphwarden/graphwarden/partition/OrderedPartition$Vertex" "next" "I" := slot_ne (.inl (W 154 rfl)) (.inl (W 160 rfl)) (by decide) pf2 pf2
theorem sn85 {Z : State} {a0 : Array Value} (W : Wd a0 Z) : Jvm.RoadKit.slotOf Z "com/example/graphwarden/graphwarden/partition/OrderedPartition$Vertex" "number" "I" ≠ Jvm.RoadKit.slotOf Z "com/example/graphwarden/graphwarden/partition/OrderedPartition$Vertex" "name" "Ljava/lang/String;" := slot_ne (.inl (W 154 rfl)) (.inr (W 162 rfl)) (by decide) pf2 pf8
theorem sn86 {Z : State} {a0 : Array Value} (W : Wd a0 Z) : Jvm.RoadKit.slotOf Z "com/example/graphwarden/graphwarden/partition/OrderedPartition$Vertex" "block" "I" ≠ Jvm.RoadKit.slotOf Z "com/example/graphwarden/graphwarden/partition/OrderedPartition$Vertex" "previous" "I" := slot_ne (.inl (W 156 rfl)) (.inl (W 158 rfl)) (by decide) pf2 pf2
theorem sn87 {Z : State} {a0 : Array Value} (W : Wd a0 Z) : Jvm.RoadKit.slotOf Z "com/example/graphwarden/graphwarden/partition/OrderedPartition$Vertex" "block" "I" ≠ Jvm.RoadKit.slotOf Z "com/example/graphwarden/graphwarden/partition/OrderedPartition$Vertex" "next" "I" := slot_ne (.inl (W 156 rfl)) (.inl (W 160 rfl)) (by decide) pf2 pf2
theorem sn88 {Z : State} {a0 : Array Value} (W : Wd a0 Z) : Jvm.RoadKit.slotOf Z "com/example/graphwarden/graphwarden/partition/OrderedPartition$Vertex" "block" "I" ≠ Jvm.RoadKit.slotOf Z "com/example/graphwarden/graphwarden/partition/OrderedPartition$Vertex" "name" "Ljava/lang/String;" := slot_ne (.inl (W 156 rfl)) (.inr (W 162 rfl)) (by decide) pf2 pf8
theorem sn89 {Z : State} {a0 : Array Value} (W : Wd a0 Z) : Jvm.RoadKit.slotOf Z "com/example/graphwarden/graphwarden/partition/OrderedPartition$Vertex" "previous" "I" ≠ Jvm.RoadKit.slotOf Z "com/example/graphwarden/graphwarden/partition/OrderedPartition$Vertex" "next" "I" := slot_ne (.inl (W 158 rfl)) (.inl (W 160 rfl)) (by decide) pf2 pf2
theorem sn90 {Z : State} {a0 : Array Value} (W : Wd a0 Z) : Jvm.RoadKit.slotOf Z "com/example/graphwarden/graphwarden/partition/OrderedPartition$Vertex" "previous" "I" ≠ Jvm.RoadKit.slotOf Z "com/example/graphwarden/graphwarden/partition/OrderedPartition$Vertex" "name" "Ljava/lang/String;" := slot_ne (.inl (W 158 rfl)) (.inr (W 162 rfl)) (by decide) pf2 pf8
theorem sn91 {Z : State} {a0 : Array Value} (W : Wd a0 Z) : Jvm.RoadKit.slotOf Z "com/example/graphwarden/graphwarden/partition/OrderedPartition$Vertex" "next" "I" ≠ Jvm.RoadKit.slotOf Z "com/example/graphwarden/graphwarden/partition/OrderedPartition$Vertex" "name" "Ljava/lang/String;" := slot_ne (.inl (W 160 rfl)) (.inr (W 162 rfl)) (by decide) pf2 pf8
theorem sn92 {Z : State} {a0 : Array Value} (W : Wd a0 Z) : Jvm.RoadKit.slotOf Z "com/example/graphwarden/graphwarden/partition/OrderedPartition$Vertex" "number" "I" ≠ Jvm.RoadKit.slotOf Z "com/example/graphwarden/graphwarden/partition/OrderedPartition$Vertex" "partition" "Lcom/example/graphwarden/graphwarden/partition/OrderedPartition;" := slot_ne (.inl (W 154 rfl)) (.inl (W 189 rfl)) (by decide) pf2 pf5
theorem sn93 {Z : State} {a0 : Array Value} (W : Wd a0 Z) : Jvm.RoadKit.slotOf Z "com/example/graphwarden/graphwarden/partition/OrderedPartition$Vertex" "block" "I" ≠ Jvm.RoadKit.slotOf Z "com/example/graphwarden/graphwarden/partition/OrderedPartition$Vertex" "partition" "Lcom/example/graphwarden/graphwarden/partition/OrderedPartition;" := slot_ne (.inl (W 156 rfl)) (.inl (W 189 rfl)) (by decide) pf2 pf5
theorem sn94 {Z : State} {a0 : Array Value} (W : Wd a0 Z) : Jvm.RoadKit.slotOf Z "com/example/graphwarden/graphwarden/partition/OrderedPartition$Vertex" "previous" "I" ≠ Jvm.RoadKit.slotOf Z "com/example/graphwarden/graphwarden/partition/OrderedPartition$Vertex" "partition" "Lcom/example/graphwarden/graphwarden/partition/OrderedPartition;" := slot_ne (.inl (W 158 rfl)) (.inl (W 189 rfl)) (by decide) pf2 pf5
theorem sn95 {Z : State} {a0 : Array Value} (W : Wd a0 Z) : Jvm.RoadKit.slotOf Z "com/example/graphwarden/graphwarden/partition/OrderedPartition$Vertex" "next" "I" ≠ Jvm.RoadKit.slotOf Z "com/example/graphwarden/graphwarden/partition/OrderedPartition$Vertex" "partition" "Lcom/example/graphwarden/graphwarden/partition/OrderedPartition;" := slot_ne (.inl (W 160 rfl)) (.inl (W 189 rfl)) (by decide) pf2 pf5
theorem sn96 {Z : State} {a0 : Array Value} (W : Wd a0 Z) : Jvm.RoadKit.slotOf Z "com/example/graphwarden/graphwarden/partition/OrderedPartition$Vertex" "partition" "Lcom/example/graphwarden/graphwarden/partition/OrderedPartition;" ≠ Jvm.RoadKit.slotOf Z "com/example/graphwarden/graphwarden/partition/OrderedPartition$Vertex" "number" "I" := slot_ne (.inl (W 189 rfl)) (.inl (W 154 rfl)) (by decide) pf5 pf2
theorem sn97 {Z : State} {a0 : Array Value} (W : Wd a0 Z) : Jvm.RoadKit.slotOf Z "com/example/graphwarden/graphwarden/partition/OrderedPartition$Vertex" "partition" "Lcom/example/graphwarden/graphwarden/partition/OrderedPartition;" ≠ Jvm.RoadKit.slotOf Z "com/example/graphwarden/graphwarden/partition/OrderedPartition$Vertex" "block" "I" := slot_ne (.inl (W 189 rfl)) (.inl (W 156 rfl)) (by decide) pf5 pf2
theorem sn98 {Z : State} {a0 : Array Value} (W : Wd a0 Z) : Jvm.RoadKit.slotOf Z "com/example/graphwarden/graphwarden/partition/OrderedPartition$Vertex" "partition" "Lcom/example/graphwarden/graphwarden/partition/OrderedPartition;" ≠ Jvm.RoadKit.slotOf Z "com/example/graphwarden/graphwarden/partition/OrderedPartition$Vertex" "previous" "I" := slot_ne (.inl (W 189 rfl)) (.inl (W 158 rfl)) (by decide) pf5 pf2
theorem sn99 {Z : State} {a0 : Array Value} (W : Wd a0 Z) : Jvm.RoadKit.slotOf Z "com/example/graphwarden/graphwarden/partition/OrderedPartition$Vertex" "partition" "Lcom/example/graphwarden/graphwarden/partition/OrderedPartition;" ≠ Jvm.RoadKit.slotOf Z "com/example/graphwarden/graphwarden/partition/OrderedPartition$Vertex" "next" "I" := slot_ne (.inl (W 189 rfl)) (.inl (W 160 rfl)) (by decide) pf5 pf2
theorem sn100 {Z : State} {a0 : Array Value} (W : Wd a0 Z) : Jvm.RoadKit.slotOf Z "com/example/graphwarden/graphwarden/partition/OrderedPartition$Block" "head" "I" ≠ Jvm.RoadKit.slotOf Z "com/example/graphwarden/graphwarden/partition/OrderedPartition$Block" "size" "I" := slot_ne (.inl (W 75 rfl)) (.inl (W 195 rfl)) (by decide) pf2 pf2
theorem sn101 {Z : State} {a0 : Array Value} (W : Wd a0 Z) : Jvm.RoadKit.slotOf Z "com/example/graphwarden/graphwarden/partition/OrderedPartition$Vertex" "partition" "Lcom/example/graphwarden/graphwarden/partition/OrderedPartition;" ≠ Jvm.RoadKit.slotOf Z "com/example/graphwarden/graphwarden/partition/OrderedPartition$Vertex" "name" "Ljava/lang/String;" := slot_ne (.inl (W 189 rfl)) (.inr (W 162 rfl)) (by decide) pf5 pf8
theorem sn102 {Z : State} {a0 : Array Value} (W : Wd a0 Z) : Jvm.RoadKit.slotOf Z "java/util/ArrayList$Itr" "lastRet" "I" ≠ Jvm.RoadKit.slotOf Z "java/util/ArrayList$Itr" "this$0" "Ljava/util/ArrayList;" := slot_ne (.inl (W 227 rfl)) (.inr (W 224 rfl)) (by decide) pf2 pf9
theorem sn103 {Z : State} {a0 : Array Value} (W : Wd a0 Z) : Jvm.RoadKit.slotOf Z "java/util/ArrayList$Itr" "this$0" "Ljava/util/ArrayList;" ≠ Jvm.RoadKit.slotOf Z "java/util/ArrayList$Itr" "lastRet" "I" := slot_ne (.inr (W 224 rfl)) (.inl (W 227 rfl)) (by decide) pf9 pf2
theorem sn104 {Z : State} {a0 : Array Value} (W : Wd a0 Z) : Jvm.RoadKit.slotOf Z "java/util/ArrayList$Itr" "expectedModCount" "I" ≠ Jvm.RoadKit.slotOf Z "java/util/ArrayList$Itr" "this$0" "Ljava/util/ArrayList;" := slot_ne (.inl (W 230 rfl)) (.inr (W 224 rfl)) (by decide) pf2 pf9
theorem sn105 {Z : State} {a0 : Array Value} (W : Wd a0 Z) : Jvm.RoadKit.slotOf Z "java/util/ArrayList$Itr" "expectedModCount" "I" ≠ Jvm.RoadKit.slotOf Z "java/util/ArrayList$Itr" "lastRet" "I" := slot_ne (.inl (W 230 rfl)) (.inl (W 227 rfl)) (by decide) pf2 pf2
theorem sn106 {Z : State} {a0 : Array Value} (W : Wd a0 Z) : Jvm.RoadKit.slotOf Z "java/util/ArrayList$Itr" "this$0" "Ljava/util/ArrayList;" ≠ Jvm.RoadKit.slotOf Z "java/util/ArrayList$Itr" "expectedModCount" "I" := slot_ne (.inr (W 224 rfl)) (.inl (W 230 rfl)) (by decide) pf9 pf2
theorem sn107 {Z : State} {a0 : Array Value} (W : Wd a0 Z) : Jvm.RoadKit.slotOf Z "java/util/ArrayList$Itr" "lastRet" "I" ≠ Jvm.RoadKit.slotOf Z "java/util/ArrayList$Itr" "expectedModCount" "I" := slot_ne (.inl (W 227 rfl)) (.inl (W 230 rfl)) (by decide) pf2 pf2
theorem sn108 {Z : State} {a0 : Array Value} (W : Wd a0 Z) : Jvm.RoadKit.slotOf Z "java/util/ArrayList$Itr" "cursor" "I" ≠ Jvm.RoadKit.slotOf Z "java/util/ArrayList$Itr" "expectedModCount" "I" := slot_ne (.inl (W 241 rfl)) (.inl (W 230 rfl)) (by decide) pf2 pf2
theorem sn109 {Z : State} {a0 : Array Value} (W : Wd a0 Z) : Jvm.RoadKit.slotOf Z "java/util/ArrayList$Itr" "cursor" "I" ≠ Jvm.RoadKit.slotOf Z "java/util/ArrayList$Itr" "lastRet" "I" := slot_ne (.inl (W 241 rfl)) (.inl (W 227 rfl)) (by decide) pf2 pf2
theorem sn110 {Z : State} {a0 : Array Value} (W : Wd a0 Z) : Jvm.RoadKit.slotOf Z "java/util/ArrayList$Itr" "cursor" "I" ≠ Jvm.RoadKit.slotOf Z "java/util/ArrayList$Itr" "this$0" "Ljava/util/ArrayList;" := slot_ne (.inl (W 241 rfl)) (.inr (W 224 rfl)) (by decide) pf2 pf9
theorem sn111 {Z : State} {a0 : Array Value} (W : Wd a0 Z) : Jvm.RoadKit.slotOf Z "java/util/ArrayList$Itr" "lastRet" "I" ≠ Jvm.RoadKit.slotOf Z "java/util/ArrayList$Itr" "cursor" "I" := slot_ne (.inl (W 227 rfl)) (.inl (W 241 rfl)) (by decide) pf2 pf2
theorem sn112 {Z : State} {a0 : Array Value} (W : Wd a0 Z) : Jvm.RoadKit.slotOf Z "com/example/graphwarden/graphwarden/partition/OrderedPartition$Block" "partition" "Lcom/example/graphwarden/graphwarden/partition/OrderedPartition;" ≠ Jvm.RoadKit.slotOf Z "com/example/graphwarden/graphwarden/partition/OrderedPartition$Block" "size" "I" := slot_ne (.inr (W 81 rfl)) (.inl (W 195 rfl)) (by decide) pf5 pf2
theorem sn113 {Z : State} {a0 : Array Value} (W : Wd a0 Z) : Jvm.RoadKit.slotOf Z "com/example/graphwarden/graphwarden/partition/OrderedPartition$Block" "number" "I" ≠ Jvm.RoadKit.slotOf Z "com/example/graphwarden/graphwarden/partition/OrderedPartition$Block" "size" "I" := slot_ne (.inl (W 135 rfl)) (.inl (W 195 rfl)) (by decide) pf2 pf2
theorem sn114 {Z : State} {a0 : Array Value} (W : Wd a0 Z) : Jvm.RoadKit.slotOf Z "com/example/graphwarden/graphwarden/partition/OrderedPartition$Block" "head" "I" ≠ Jvm.RoadKit.slotOf Z "com/example/graphwarden/graphwarden/partition/OrderedPartition$Block" "marked" "I" := slot_ne (.inl (W 75 rfl)) (.inl (W 298 rfl)) (by decide) pf2 pf2
theorem sn115 {Z : State} {a0 : Array Value} (W : Wd a0 Z) : Jvm.RoadKit.slotOf Z "com/example/graphwarden/graphwarden/partition/OrderedPartition$Block" "size" "I" ≠ Jvm.RoadKit.slotOf Z "com/example/graphwarden/graphwarden/partition/OrderedPartition$Block" "marked" "I" := slot_ne (.inl (W 195 rfl)) (.inl (W 298 rfl)) (by decide) pf2 pf2
theorem sn116 {Z : State} {a0 : Array Value} (W : Wd a0 Z) : Jvm.RoadKit.slotOf Z "com/example/graphwarden/graphwarden/partition/OrderedPartition$Block" "partition" "Lcom/example/graphwarden/graphwarden/partition/OrderedPartition;" ≠ Jvm.RoadKit.slotOf Z "com/example/graphwarden/graphwarden/partition/OrderedPartition$Block" "marked" "I" := slot_ne (.inr (W 81 rfl)) (.inl (W 298 rfl)) (by decide) pf5 pf2
theorem sn117 {Z : State} {a0 : Array Value} (W : Wd a0 Z) : Jvm.RoadKit.slotOf Z "com/example/graphwarden/graphwarden/partition/OrderedPartition$Block" "number" "I" ≠ Jvm.RoadKit.slotOf Z "com/example/graphwarden/graphwarden/partition/OrderedPartition$Block" "marked" "I" := slot_ne (.inl (W 135 rfl)) (.inl (W 298 rfl)) (by decide) pf2 pf2
theorem sn118 {Z : State} {a0 : Array Value} (W : Wd a0 Z) : Jvm.RoadKit.slotOf Z "com/example/graphwarden/graphwarden/partition/OrderedPartition$Block" "marked" "I" ≠ Jvm.RoadKit.slotOf Z "com/example/graphwarden/graphwarden/partition/OrderedPartition$Block" "size" "I" := slot_ne (.inl (W 298 rfl)) (.inl (W 195 rfl)) (by decide) pf2 pf2
theorem sn119 {Z : State} {a0 : Array Value} (W : Wd a0 Z) : Jvm.RoadKit.slotOf Z "java/util/ArrayList$Itr" "this$0" "Ljava/util/ArrayList;" ≠ Jvm.RoadKit.slotOf Z "java/util/ArrayList$Itr" "cursor" "I" := slot_ne (.inr (W 224 rfl)) (.inl (W 241 rfl)) (by decide) pf9 pf2
theorem sn120 {Z : State} {a0 : Array Value} (W : Wd a0 Z) : Jvm.RoadKit.slotOf Z "com/example/graphwarden/graphwarden/partition/OrderedPartition$Block" "previous" "I" ≠ Jvm.RoadKit.slotOf Z "com/example/graphwarden/graphwarden/partition/OrderedPartition$Block" "size" "I" := slot_ne (.inl (W 77 rfl)) (.inl (W 195 rfl)) (by decide) pf2 pf2
theorem sn121 {Z : State} {a0 : Array Value} (W : Wd a0 Z) : Jvm.RoadKit.slotOf Z "com/example/graphwarden/graphwarden/partition/OrderedPartition$Block" "kind" "Ljava/lang/Object;" ≠ Jvm.RoadKit.slotOf Z "com/example/graphwarden/graphwarden/partition/OrderedPartition$Block" "size" "I" := slot_ne (.inr (W 83 rfl)) (.inl (W 195 rfl)) (by decide) pf6 pf2
theorem sn122 {Z : State} {a0 : Array Value} (W : Wd a0 Z) : Jvm.RoadKit.slotOf Z "com/example/graphwarden/graphwarden/partition/OrderedPartition$Block" "next" "I" ≠ Jvm.RoadKit.slotOf Z "com/example/graphwarden/graphwarden/partition/OrderedPartition$Block" "size" "I" := slot_ne (.inl (W 79 rfl)) (.inl (W 195 rfl)) (by decide) pf2 pf2
theorem sn123 {Z : State} {a0 : Array Value} (W : Wd a0 Z) : Jvm.RoadKit.slotOf Z "com/example/graphwarden/graphwarden/partition/OrderedPartition$Block" "kind" "Ljava/lang/Object;" ≠ Jvm.RoadKit.slotOf Z "com/example/graphwarden/graphwarden/partition/OrderedPartition$Block" "marked" "I" := slot_ne (.inr (W 83 rfl)) (.inl (W 298 rfl)) (by decide) pf6 pf2
theorem sn124 {Z : State} {a0 : Array Value} (W : Wd a0 Z) : Jvm.RoadKit.slotOf Z "com/example/graphwarden/graphwarden/partition/OrderedPartition$Vertex" "degree" "I" ≠ Jvm.RoadKit.slotOf Z "com/example/graphwarden/graphwarden/partition/OrderedPartition$Vertex" "partition" "Lcom/example/graphwarden/graphwarden/partition/OrderedPartition;" := slot_ne (.inl (W 387 rfl)) (.inl (W 189 rfl)) (by decide) pf2 pf5
theorem sn125 {Z : State} {a0 : Array Value} (W : Wd a0 Z) : Jvm.RoadKit.slotOf Z "com/example/graphwarden/graphwarden/partition/OrderedPartition$Vertex" "degree" "I" ≠ Jvm.RoadKit.slotOf Z "com/example/graphwarden/graphwarden/partition/OrderedPartition$Vertex" "number" "I" := slot_ne (.inl (W 387 rfl)) (.inl (W 154 rfl)) (by decide) pf2 pf2
theorem sn126 {Z : State} {a0 : Array Value} (W : Wd a0 Z) : Jvm.RoadKit.slotOf Z "com/example/graphwarden/graphwarden/partition/OrderedPartition$Vertex" "degree" "I" ≠ Jvm.RoadKit.slotOf Z "com/example/graphwarden/graphwarden/partition/OrderedPartition$Vertex" "block" "I" := slot_ne (.inl (W 387 rfl)) (.inl (W 156 rfl)) (by decide) pf2 pf2
theorem sn127 {Z : State} {a0 : Array Value} (W : Wd a0 Z) : Jvm.RoadKit.slotOf Z "com/example/graphwarden/graphwarden/partition/OrderedPartition$Vertex" "degree" "I" ≠ Jvm.RoadKit.slotOf Z "com/example/graphwarden/graphwarden/partition/OrderedPartition$Vertex" "previous" "I" := slot_ne (.inl (W 387 rfl)) (.inl (W 158 rfl)) (by decide) pf2 pf2
theorem sn128 {Z : State} {a0 : Array Value} (W : Wd a0 Z) : Jvm.RoadKit.slotOf Z "com/example/graphwarden/graphwarden/partition/OrderedPartition$Vertex" "degree" "I" ≠ Jvm.RoadKit.slotOf Z "com/example/graphwarden/graphwarden/partition/OrderedPartition$Vertex" "next" "I" := slot_ne (.inl (W 387 rfl)) (.inl (W 160 rfl)) (by decide) pf2 pf2
theorem sn129 {Z : State} {a0 : Array Value} (W : Wd a0 Z) : Jvm.RoadKit.slotOf Z "com/example/graphwarden/graphwarden/partition/OrderedPartition$Vertex" "block" "I" ≠ Jvm.RoadKit.slotOf Z "com/example/graphwarden/graphwarden/partition/OrderedPartition$Vertex" "degree" "I" := slot_ne (.inl (W 156 rfl)) (.inl (W 387 rfl)) (by decide) pf2 pf2
theorem sn130 {Z : State} {a0 : Array Value} (W : Wd a0 Z) : Jvm.RoadKit.slotOf Z "com/example/graphwarden/graphwarden/partition/OrderedPartition$Vertex" "previous" "I" ≠ Jvm.RoadKit.slotOf Z "com/example/graphwarden/graphwarden/partition/OrderedPartition$Vertex" "degree" "I" := slot_ne (.inl (W 158 rfl)) (.inl (W 387 rfl)) (by decide) pf2 pf2
theorem sn131 {Z : State} {a0 : Array Value} (W : Wd a0 Z) : Jvm.RoadKit.slotOf Z "com/example/graphwarden/graphwarden/partition/OrderedPartition$Vertex" "next" "I" ≠ Jvm.RoadKit.slotOf Z "com/example/graphwarden/graphwarden/partition/OrderedPartition$Vertex" "degree" "I" := slot_ne (.inl (W 160 rfl)) (.inl (W 387 rfl)) (by decide) pf2 pf2
theorem sn132 {Z : State} {a0 : Array Value} (W : Wd a0 Z) : Jvm.RoadKit.slotOf Z "com/example/graphwarden/graphwarden/partition/OrderedPartition$Vertex" "partition" "Lcom/example/graphwarden/graphwarden/partition/OrderedPartition;" ≠ Jvm.RoadKit.slotOf Z "com/example/graphwarden/graphwarden/partition/OrderedPartition$Vertex" "degree" "I" := slot_ne (.inl (W 189 rfl)) (.inl (W 387 rfl)) (by decide) pf5 pf2
theorem sn133 {Z : State} {a0 : Array Value} (W : Wd a0 Z) : Jvm.RoadKit.slotOf Z "com/example/graphwarden/graphwarden/partition/OrderedPartition$Vertex" "number" "I" ≠ Jvm.RoadKit.slotOf Z "com/example/graphwarden/graphwarden/partition/OrderedPartition$Vertex" "degree" "I" := slot_ne (.inl (W 154 rfl)) (.inl (W 387 rfl)) (by decide) pf2 pf2
theorem sn134 {Z : State} {a0 : Array Value} (W : Wd a0 Z) : Jvm.RoadKit.slotOf Z "com/example/graphwarden/graphwarden/partition/OrderedPartition$Vertex" "degree" "I" ≠ Jvm.RoadKit.slotOf Z "com/example/graphwarden/graphwarden/partition/OrderedPartition$Vertex" "name" "Ljava/lang/String;" := slot_ne (.inl (W 387 rfl)) (.inr (W 162 rfl)) (by decide) pf2 pf8
theorem sn135 {Z : State} {a0 : Array Value} (W : Wd a0 Z) : Jvm.RoadKit.slotOf Z "com/example/graphwarden/graphwarden/partition/OrderedPartition$Block" "next" "I" ≠ Jvm.RoadKit.slotOf Z "com/example/graphwarden/graphwarden/partition/OrderedPartition$Block" "marked" "I" := slot_ne (.inl (W 79 rfl)) (.inl (W 298 rfl)) (by decide) pf2 pf2
section Own
variable {l : Launch} {Z : State} {a0 : Array Value} {h0 : Heap} {n0 : Nat}
def Q_rm7_6 (Z : State) (ra1 : Addr) (h0 : Heap) (n0 : Nat) (v : Option Value) (h : Heap) (L : List Loc) : Prop := v = none ∧ Fr n0 L ∧ h = h0
theorem rm7_6 (W : Wd a0 Z) (I0 : IO Z n0 h0) {ra1 : Addr}  : OwnM l yy40 (.code yy40 k7_ 1 none) ⟨1, 0, 0, 12⟩ #[(.ref ra1)] Z h0 (Q_rm7_6 Z ra1 h0 n0) := by
  refine own_open [] [] #[.val (.ref ra1)] (plainFor_of_name pn_1) I0 ?_
  intro p e s m below meth c T b S0
  refine gAl b S0 d7_0 rfl rfl 1 rfl ?_
  refine gIni b S0 d7_1 (W 39 rfl) (W 12 rfl) (W 13 rfl) rfl (own_le rfl) 0 (own_le rfl) (own_le rfl) 4 rfl fun T1 S1 => ?_
  exact gRetV b S1 d7_4 (own_le rfl) (own_le rfl) ⟨rfl, S1.f, rfl⟩
def Q_rm6_5 (Z : State) (ra1 : Addr) (h0 : Heap) (n0 : Nat) (v : Option Value) (h : Heap) (L : List Loc) : Prop := v = none ∧ Fr n0 L ∧ Keep h0 h [ra1] ∧ KeepF h0 h [(ra1, some (sl23 Z))] ∧ Fld Z h ra1 ss5 ss6 "I" (.int (0 : Int32))
theorem rm6_5 (W : Wd a0 Z) (I0 : IO Z n0 h0) {ra1 : Addr} (P0 : Exa Z h0 ra1 ss2) (P1 : Fld Z h0 ra1 ss5 ss6 "I" (.int (0 : Int32))) (P2 : n0 ≤ ra1) : OwnM l yy41 (.code yy41 k6_ 1 none) ⟨2, 0, 0, 24⟩ #[(.ref ra1)] Z h0 (Q_rm6_5 Z ra1 h0 n0) := by
  refine own_open [ra1] [(ra1, some (sl23 Z))] #[.val (.ref ra1)] (plainFor_of_name pn_2) I0 ?_
  intro p e s m below meth c T b S0
  refine gAl b S0 d6_0 rfl rfl 1 rfl ?_
  refine cN b S0 d6_1 (W 33 rfl) (W 34 rfl) (W 37 rfl) (W 38 rfl) (rm7_6 W S0.i) rfl (by decide) (lenOf pd_0 rfl) rfl [] rfl 0 (own_le rfl) rfl 4 rfl fun T1 L1 v1 X1 q1 => ?_
  obtain ⟨rfl, N1q, e1⟩ := q1
  have S1 := S0.same X1 N1q e1
  refine gRn ?_
  refine gAl b S1 d6_4 rfl rfl 5 rfl ?_
  refine gIc b S1 d6_5 0 rfl 6 rfl ?_
  refine gPf (host := "") b S1 .int d6_6 (.inl (W 40 rfl)) Via.refl P1 P0 (.inl (W 41 rfl)) (W 22 rfl) pf2 rfl rfl P2 (.inl ⟨mI 0 rfl, mI 0 rfl⟩) 9 rfl fun T2 h2 W2 F2 S2 => ?_
  exact gRetV b S2 d6_9 (own_le rfl) (own_le rfl) ⟨rfl, S2.f, S2.k, S2.kf, F2⟩
def Q_rm5_4 (Z : State) (ra1 ra2 : Addr) (h0 : Heap) (n0 : Nat) (v : Option Value) (h : Heap) (L : List Loc) : Prop := v = none ∧ Fr n0 L ∧ Keep h0 h [ra1] ∧ KeepF h0 h [(ra1, some (sl23 Z)), (ra1, some (sl16 Z))] ∧ Fld Z h ra1 ss5 ss6 "I" (.int (0 : Int32)) ∧ Fld Z h ra1 ss2 ss12 ss7 (.ref ra2)
theorem rm5_4 (W : Wd a0 Z) (I0 : IO Z n0 h0) {ra1 ra2 : Addr} (P0 : Exa Z h0 ra1 ss2) (P1 : Fld Z h0 ra1 ss5 ss6 "I" (.int (0 : Int32))) (P2 : n0 ≤ ra1) (P3 : Sta Z Z.heap ss2 ss30 ss7 (.ref ra2)) (P4 : Fld Z h0 ra1 ss2 ss12 ss7 .null) : OwnM l yy42 (.code yy42 k5_ 1 none) ⟨3, 0, 0, 36⟩ #[(.ref ra1)] Z h0 (Q_rm5_4 Z ra1 ra2 h0 n0) := by
  refine own_open [ra1] [(ra1, some (sl23 Z)), (ra1, some (sl16 Z))] #[.val (.ref ra1)] (plainFor_of_name pn_3) I0 ?_
  intro p e s m below meth c T b S0
  refine gAl b S0 d5_0 rfl rfl 1 rfl ?_
  refine cN b S0 d5_1 (W 27 rfl) (W 28 rfl) (W 31 rfl) (W 32 rfl) (rm6_5 W S0.i P0 P1 P2) rfl (by decide) (lenOf pd_0 rfl) rfl [] rfl 0 (own_le rfl) rfl 4 rfl fun T1 L1 v1 X1 q1 => ?_
  obtain ⟨rfl, N1q, K1q, KF1q, R1_0⟩ := q1
  have S1 := S0.call X1 N1q K1q KF1q (allS (.inl (mI 0 rfl)) all0) (fallS (.inl (mI 0 rfl)) fall0) (allS P2 all0)
  refine gRn ?_
  refine gAl b S1 d5_4 rfl rfl 5 rfl ?_
  refine gGs b S1 d5_5 (W 42 rfl) P3 8 rfl fun T2 S2 => ?_
  have f3 := (P4.kf K1q KF1q (nofB (sn0 W) nof0))
  refine gPf (host := "") b S2 (.array (.object ss4)) d5_8 (.inl (W 43 rfl)) Via.refl f3 (P0.keep K1q) (.inl (W 44 rfl)) (W 22 rfl) pf3 rfl rfl P2 (.inl ⟨mI 0 rfl, mI 1 rfl⟩) 11 rfl fun T4 h4 W4 F4 S4 => ?_
  exact gRetV b S4 d5_11 (own_le rfl) (own_le rfl) ⟨rfl, S4.f, S4.k, S4.kf, (R1_0.other W4 (.inr (sn1 W))), F4⟩
def Q_rm4_3 (Z : State) (ra1 ra2 : Addr) (h0 : Heap) (n0 : Nat) (v : Option Value) (h : Heap) (L : List Loc) : Prop := ∃ nw1 : Addr, ∃ nw2 : Addr, ∃ kw1 : ClassId, v = none ∧ Fr n0 L ∧ Keep h0 h [ra1] ∧ KeepF h0 h [(ra1, some (sl15 Z)), (ra1, some (sl14 Z))] ∧ h0.size ≤ nw1 ∧ h0.size ≤ nw2 ∧ Fld Z h ra1 ss10 ss19 ss20 (.ref nw1) ∧ Fld Z h ra1 ss10 "free" "[I" (.ref nw2) ∧ Exa Z h nw1 ss2 ∧ Fld Z h nw1 ss2 ss3 "I" (.int (0 : Int32)) ∧ Fld Z h nw1 ss5 ss6 "I" (.int (0 : Int32)) ∧ Fld Z h nw1 ss2 ss12 ss7 (.ref ra2) ∧ Arv Z h nw2 kw1 .int (0 : Int32) [] (.int (0 : Int32)) ∧ nw2 ≠ nw1
theorem rm4_3 (W : Wd a0 Z) (I0 : IO Z n0 h0) {ra1 ra2 : Addr} (P0 : Sta Z Z.heap ss2 ss30 ss7 (.ref ra2)) (P1 : Exa Z h0 ra1 ss10) (P2 : Fld Z h0 ra1 ss10 ss19 ss20 .null) (P3 : n0 ≤ ra1) (P4 : Fld Z h0 ra1 ss10 "free" "[I" .null) : OwnM l yy33 (.code yy33 k4_ 1 none) ⟨4, 2, 3, 50⟩ #[(.ref ra1)] Z h0 (Q_rm4_3 Z ra1 ra2 h0 n0) := by
  refine own_open [ra1] [(ra1, some (sl15 Z)), (ra1, some (sl14 Z))] #[.val (.ref ra1)] (plainFor_of_name pn_4) I0 ?_
  intro p e s m below meth c T b S0
  refine gAl b S0 d4_0 rfl rfl 1 rfl ?_
  refine gIni b S0 d4_1 (W 20 rfl) (W 12 rfl) (W 13 rfl) rfl (own_le rfl) 0 (own_le rfl) (own_le rfl) 4 rfl fun T1 S1 => ?_
  refine gAl b S1 d4_4 rfl rfl 5 rfl ?_
  refine gNew b S1 d4_5 (W 21 rfl) (W 22 rfl) (W 23 rfl) (own_le rfl) (own_le rfl) 8 rfl fun T2 h2 b2 g2 E2 A2 D2 S2 => ?_
  refine gDup b S2 d4_8 rfl 9 rfl ?_
  refine cN b S2 d4_9 (W 24 rfl) (W 25 rfl) (W 23 rfl) (W 26 rfl) (rm5_4 W S2.i A2 (own_dI @D2 (.inl (W 41 rfl)) pf2) (S1.ge g2) P0 (own_dN @D2 (.inl (W 44 rfl)) pf3)) rfl (by decide) (lenOf pd_0 rfl) rfl [(.ref b2), (.ref ra1)] rfl 2 (own_le rfl) rfl 12 rfl fun T3 L3 v3 X3 q3 => ?_
  obtain ⟨rfl, N3q, K3q, KF3q, R3_0, R3_1⟩ := q3
  have S3 := S2.call X3 N3q K3q KF3q (allS (.inr (S1.sz g2)) all0) (fallS (.inr (.inr (S1.sz g2))) (fallS (.inr (.inr (S1.sz g2))) fall0)) (allS (S1.ge g2) all0)
  refine gRn ?_
  have x4 := (nL (tL P1.lt g2))
  have f5 := ((P2.ext E2).keep K3q (ninS x4 nin0))
  refine gPf (host := "") b S3 (.object "java/util/List") d4_12 (.inl (W 45 rfl)) Via.refl f5 ((P1.ext E2).keep K3q) (.inr ⟨(W 46 rfl), rfl, b.2.2.2.2.2.2.1⟩) (W 15 rfl) pf0 rfl rfl P3 (.inl ⟨mI 0 rfl, mI 0 rfl⟩) 15 rfl fun T6 h6 W6 F6 S6 => ?_
  refine gAl b S6 d4_15 rfl rfl 16 rfl ?_
  refine gIc b S6 d4_16 0 rfl 17 rfl ?_
  refine gNewI b S6 d4_17 (W 47 rfl) (by decide) 0 (by decide) (by decide) (own_le rfl) (own_le rfl) 19 rfl fun T7 h7 b7 k7 g7 E7 A7 S7 => ?_
  have V7 : Arv Z h7 b7 k7 .int (0 : Int32) [] (.int (0 : Int32)) := (Arv.new A7 (by decide)).pad (pad_rep [] (.int (0 : Int32)) 0)
  have f8 := ((((P4.ext E2).keep K3q (ninS x4 nin0)).other W6 (.inr (sn2 W))).ext E7)
  have f9 := ((((P1.ext E2).keep K3q).wr W6).ext E7)
  refine gPf (host := "") b S7 (.array .int) d4_19 (.inl (W 48 rfl)) Via.refl f8 f9 (.inl (W 49 rfl)) (W 15 rfl) pf1 rfl rfl P3 (.inl ⟨mI 0 rfl, mI 1 rfl⟩) 22 rfl fun T10 h10 W10 F10 S10 => ?_
  have f11 := ((F6.ext E7).other W10 (.inr (sn3 W)))
  have f12 := ((((A2.keep K3q).wr W6).ext E7).wr W10)
  have f13 := (((((own_dI @D2 (.inl (W 103 rfl)) pf2).kf K3q KF3q (nofB (sn5 W) (nofB (sn4 W) nof0))).other W6 (Or.inl (nS x4))).ext E7).other W10 (Or.inl (nS x4)))
  have f14 := (((R3_0.other W6 (Or.inl (nS x4))).ext E7).other W10 (Or.inl (nS x4)))
  have f15 := (((R3_1.other W6 (Or.inl (nS x4))).ext E7).other W10 (Or.inl (nS x4)))
  have x16 := (nS (nL (tL (tL (tL (tL P1.lt E2.1) K3q.1) (Keep.of_wr W6).1) g7)))
  have x17 := (nS (nL (tL (tL (tL A2.lt K3q.1) (Keep.of_wr W6).1) g7)))
  exact gRetV b S10 d4_22 (own_le rfl) (own_le rfl) ⟨b2, b7, k7, rfl, S10.f, S10.k, S10.kf, (S1.sz g2), (S6.sz g7), f11, F10, f12, f13, f14, f15, (V7.other W10 x16), x17⟩
def Q_rm2_2 (Z : State) (ra1 ra2 : Addr) (h0 : Heap) (n0 : Nat) (v : Option Value) (h : Heap) (L : List Loc) : Prop := ∃ nw1 : Addr, ∃ nw2 : Addr, ∃ nw3 : Addr, ∃ nw4 : Addr, ∃ nw5 : Addr, ∃ nw6 : Addr, ∃ kw1 : ClassId, ∃ kw2 : ClassId, v = none ∧ Fr n0 L ∧ Keep h0 h [ra1] ∧ KeepF h0 h [(ra1, some (sl27 Z)), (ra1, some (sl25 Z)), (ra1, some (sl26 Z)), (ra1, some (sl24 Z))] ∧ h0.size ≤ nw1 ∧ h0.size ≤ nw2 ∧ h0.size ≤ nw3 ∧ h0.size ≤ nw4 ∧ h0.size ≤ nw5 ∧ h0.size ≤ nw6 ∧ Fld Z h ra1 ss8 ss31 ss18 (.ref nw1) ∧ Fld Z h ra1 ss8 ss22 ss18 (.ref nw2) ∧ Fld Z h ra1 ss8 ss24 "I" (.int (-1 : Int32)) ∧ Fld Z h ra1 ss8 "last" "I" (.int (-1 : Int32)) ∧ Exa Z h nw1 ss10 ∧ Fld Z h nw1 ss10 ss26 "I" (.int (0 : Int32)) ∧ Fld Z h nw1 ss10 ss19 ss20 (.ref nw3) ∧ Fld Z h nw1 ss10 "free" "[I" (.ref nw4) ∧ Exa Z h nw2 ss10 ∧ Fld Z h nw2 ss10 ss26 "I" (.int (0 : Int32)) ∧ Fld Z h nw2 ss10 ss19 ss20 (.ref nw5) ∧ Fld Z h nw2 ss10 "free" "[I" (.ref nw6) ∧ Exa Z h nw3 ss2 ∧ Fld Z h nw3 ss2 ss3 "I" (.int (0 : Int32)) ∧ Fld Z h nw3 ss5 ss6 "I" (.int (0 : Int32)) ∧ Fld Z h nw3 ss2 ss12 ss7 (.ref ra2) ∧ Arv Z h nw4 kw1 .int (0 : Int32) [] (.int (0 : Int32)) ∧ Exa Z h nw5 ss2 ∧ Fld Z h nw5 ss2 ss3 "I" (.int (0 : Int32)) ∧ Fld Z h nw5 ss5 ss6 "I" (.int (0 : Int32)) ∧ Fld Z h nw5 ss2 ss12 ss7 (.ref ra2) ∧ Arv Z h nw6 kw2 .int (0 : Int32) [] (.int (0 : Int32)) ∧ nw2 ≠ nw1 ∧ nw3 ≠ nw1 ∧ nw3 ≠ nw2 ∧ nw4 ≠ nw1 ∧ nw4 ≠ nw2 ∧ nw4 ≠ nw3 ∧ nw5 ≠ nw1 ∧ nw5 ≠ nw2 ∧ nw5 ≠ nw3 ∧ nw5 ≠ nw4 ∧ nw6 ≠ nw1 ∧ nw6 ≠ nw2 ∧ nw6 ≠ nw3 ∧ nw6 ≠ nw4 ∧ nw6 ≠ nw5
theorem rm2_2 (W : Wd a0 Z) (I0 : IO Z n0 h0) {ra1 ra2 : Addr} (P0 : Sta Z Z.heap ss2 ss30 ss7 (.ref ra2)) (P1 : Exa Z h0 ra1 ss28) (P2 : Fld Z h0 ra1 ss8 ss31 ss18 .null) (P3 : n0 ≤ ra1) (P4 : Fld Z h0 ra1 ss8 ss22 ss18 .null) (P5 : Fld Z h0 ra1 ss8 ss24 "I" (.int (0 : Int32))) (P6 : Fld Z h0 ra1 ss8 "last" "I" (.int (0 : Int32))) : OwnM l yy15 (.code yy15 k2_ 1 none) ⟨5, 6, 12, 64⟩ #[(.ref ra1)] Z h0 (Q_rm2_2 Z ra1 ra2 h0 n0) := by
  refine own_open [ra1] [(ra1, some (sl27 Z)), (ra1, some (sl25 Z)), (ra1, some (sl26 Z)), (ra1, some (sl24 Z))] #[.val (.ref ra1)] (plainFor_of_name pn_5) I0 ?_
  intro p e s m below meth c T b S0
  refine gAl b S0 d2_0 rfl rfl 1 rfl ?_
  refine gIni b S0 d2_1 (W 11 rfl) (W 12 rfl) (W 13 rfl) rfl (own_le rfl) 0 (own_le rfl) (own_le rfl) 4 rfl fun T1 S1 => ?_
  refine gAl b S1 d2_4 rfl rfl 5 rfl ?_
  refine gNew b S1 d2_5 (W 14 rfl) (W 15 rfl) (W 16 rfl) (own_le rfl) (own_le rfl) 8 rfl fun T2 h2 b2 g2 E2 A2 D2 S2 => ?_
  refine gDup b S2 d2_8 rfl 9 rfl ?_
  refine cNR b S2 d2_9 (W 17 rfl) (W 18 rfl) (W 16 rfl) (W 19 rfl) (rm4_3 W S2.i P0 A2 (own_dN @D2 (.inr (W 46 rfl)) pf0) (S1.ge g2) (own_dN @D2 (.inl (W 49 rfl)) pf1)) rfl (by decide) (lenOf pd_0 rfl) rfl [(.ref b2), (.ref ra1)] rfl 2 (own_le rfl) rfl 12 rfl fun T3 L3 v3 X3 q3 => ?_
  obtain ⟨nw1_3, nw2_3, kw1_3, rfl, N3q, K3q, KF3q, z3_nw1, z3_nw2, R3_0, R3_1, R3_2, R3_3, R3_4, R3_5, R3_6, R3_7⟩ := q3
  have S3 := S2.call X3 N3q K3q KF3q (allS (.inr (S1.sz g2)) all0) (fallS (.inr (.inr (S1.sz g2))) (fallS (.inr (.inr (S1.sz g2))) fall0)) (allS (S1.ge g2) all0)
  refine gRn ?_
  have x4 := (nL (tL P1.lt g2))
  have f5 := ((P2.ext E2).keep K3q (ninS x4 nin0))
  refine gPf (host := "") b S3 (.object ss10) d2_12 (.inl (W 50 rfl)) Via.refl f5 ((P1.ext E2).keep K3q) (.inr ⟨(W 51 rfl), rfl, b.2.2.2.2.2.2.1⟩) (W 1 rfl) pf4 rfl rfl P3 (.inl ⟨mI 0 rfl, mI 0 rfl⟩) 15 rfl fun T6 h6 W6 F6 S6 => ?_
  refine gAl b S6 d2_15 rfl rfl 16 rfl ?_
  refine gNew b S6 d2_16 (W 14 rfl) (W 15 rfl) (W 16 rfl) (own_le rfl) (own_le rfl) 19 rfl fun T7 h7 b7 g7 E7 A7 D7 S7 => ?_
  refine gDup b S7 d2_19 rfl 20 rfl ?_
  refine cNR b S7 d2_20 (W 17 rfl) (W 18 rfl) (W 16 rfl) (W 19 rfl) (rm4_3 W S7.i P0 A7 (own_dN @D7 (.inr (W 46 rfl)) pf0) (S6.ge g7) (own_dN @D7 (.inl (W 49 rfl)) pf1)) rfl (by decide) (lenOf pd_0 rfl) rfl [(.ref b7), (.ref ra1)] rfl 2 (own_le rfl) rfl 23 rfl fun T8 L8 v8 X8 q8 => ?_
  obtain ⟨nw1_8, nw2_8, kw1_8, rfl, N8q, K8q, KF8q, z8_nw1, z8_nw2, R8_0, R8_1, R8_2, R8_3, R8_4, R8_5, R8_6, R8_7⟩ := q8
  have S8 := S7.call X8 N8q K8q KF8q (allS (.inr (S6.sz g7)) all0) (fallS (.inr (.inr (S6.sz g7))) (fallS (.inr (.inr (S6.sz g7))) fall0)) (allS (S6.ge g7) all0)
  refine gRn ?_
  have x9 := (nL (tL (tL (tL (tL P1.lt E2.1) K3q.1) (Keep.of_wr W6).1) g7))
  have f10 := (((((P4.ext E2).keep K3q (ninS x4 nin0)).other W6 (.inr (sn6 W))).ext E7).keep K8q (ninS x9 nin0))
  have f11 := (((((P1.ext E2).keep K3q).wr W6).ext E7).keep K8q)
  refine gPf (host := "") b S8 (.object ss10) d2_23 (.inl (W 52 rfl)) Via.refl f10 f11 (.inr ⟨(W 53 rfl), rfl, b.2.2.2.2.2.2.1⟩) (W 1 rfl) pf4 rfl rfl P3 (.inl ⟨mI 0 rfl, mI 1 rfl⟩) 26 rfl fun T12 h12 W12 F12 S12 => ?_
  refine gAl b S12 d2_26 rfl rfl 27 rfl ?_
  refine gIc b S12 d2_27 (-1) rfl 28 rfl ?_
  have f13 := ((((((P5.ext E2).keep K3q (ninS x4 nin0)).other W6 (.inr (sn7 W))).ext E7).keep K8q (ninS x9 nin0)).other W12 (.inr (sn8 W)))
  refine gPf (host := "") b S12 .int d2_28 (.inl (W 54 rfl)) Via.refl f13 (f11.wr W12) (.inl (W 55 rfl)) (W 1 rfl) pf2 rfl rfl P3 (.inl ⟨mI 0 rfl, mI 2 rfl⟩) 31 rfl fun T14 h14 W14 F14 S14 => ?_
  refine gAl b S14 d2_31 rfl rfl 32 rfl ?_
  refine gIc b S14 d2_32 (-1) rfl 33 rfl ?_
  have f15 := (((((((P6.ext E2).keep K3q (ninS x4 nin0)).other W6 (.inr (sn9 W))).ext E7).keep K8q (ninS x9 nin0)).other W12 (.inr (sn10 W))).other W14 (.inr (sn11 W)))
  refine gPf (host := "") b S14 .int d2_33 (.inl (W 56 rfl)) Via.refl f15 ((f11.wr W12).wr W14) (.inl (W 57 rfl)) (W 1 rfl) pf2 rfl rfl P3 (.inl ⟨mI 0 rfl, mI 3 rfl⟩) 36 rfl fun T16 h16 W16 F16 S16 => ?_
  have f17 := (((((F6.ext E7).keep K8q (ninS x9 nin0)).other W12 (.inr (sn12 W))).other W14 (.inr (sn13 W))).other W16 (.inr (sn14 W)))
  have f18 := ((F12.other W14 (.inr (sn15 W))).other W16 (.inr (sn16 W)))
  have f19 := (F14.other W16 (.inr (sn17 W)))
  have f20 := (((((((A2.keep K3q).wr W6).ext E7).keep K8q).wr W12).wr W14).wr W16)
  have x21 := (nL (tL (tL (tL A2.lt K3q.1) (Keep.of_wr W6).1) g7))
  have f22 := ((((((((own_dI @D2 (.inl (W 90 rfl)) pf2).kf K3q KF3q (nofB (sn19 W) (nofB (sn18 W) nof0))).other W6 (Or.inl (nS x4))).ext E7).keep K8q (ninS x21 nin0)).other W12 (Or.inl (nS x4))).other W14 (Or.inl (nS x4))).other W16 (Or.inl (nS x4)))
  have f23 := ((((((R3_0.other W6 (Or.inl (nS x4))).ext E7).keep K8q (ninS x21 nin0)).other W12 (Or.inl (nS x4))).other W14 (Or.inl (nS x4))).other W16 (Or.inl (nS x4)))
  have f24 := ((((((R3_1.other W6 (Or.inl (nS x4))).ext E7).keep K8q (ninS x21 nin0)).other W12 (Or.inl (nS x4))).other W14 (Or.inl (nS x4))).other W16 (Or.inl (nS x4)))
  have f25 := ((((A7.keep K8q).wr W12).wr W14).wr W16)
  have f26 := (((((own_dI @D7 (.inl (W 90 rfl)) pf2).kf K8q KF8q (nofB (sn19 W) (nofB (sn18 W) nof0))).other W12 (Or.inl (nS x9))).other W14 (Or.inl (nS x9))).other W16 (Or.inl (nS x9)))
  have f27 := (((R8_0.other W12 (Or.inl (nS x9))).other W14 (Or.inl (nS x9))).other W16 (Or.inl (nS x9)))
  have f28 := (((R8_1.other W12 (Or.inl (nS x9))).other W14 (Or.inl (nS x9))).other W16 (Or.inl (nS x9)))
  have f29 := ((((((R3_2.wr W6).ext E7).keep K8q).wr W12).wr W14).wr W16)
  have x30 := (nS (nL (tL (tL P1.lt E2.1) z3_nw1)))
  have x31 := (nL (tL (tL R3_2.lt (Keep.of_wr W6).1) g7))
  have f32 := ((((((R3_3.other W6 (Or.inl x30)).ext E7).keep K8q (ninS x31 nin0)).other W12 (Or.inl x30)).other W14 (Or.inl x30)).other W16 (Or.inl x30))
  have f33 := ((((((R3_4.other W6 (Or.inl x30)).ext E7).keep K8q (ninS x31 nin0)).other W12 (Or.inl x30)).other W14 (Or.inl x30)).other W16 (Or.inl x30))
  have f34 := ((((((R3_5.other W6 (Or.inl x30)).ext E7).keep K8q (ninS x31 nin0)).other W12 (Or.inl x30)).other W14 (Or.inl x30)).other W16 (Or.inl x30))
  have x35 := (nS (nL (tL (tL P1.lt E2.1) z3_nw2)))
  have x36 := (nL (tL (tL R3_6.lt (Keep.of_wr W6).1) g7))
  have f37 := ((((((R3_6.other W6 x35).ext E7).keep K8q (ninS x36 nin0)).other W12 x35).other W14 x35).other W16 x35)
  have f38 := (((R8_2.wr W12).wr W14).wr W16)
  have x39 := (nS (nL (tL (tL (tL (tL (tL P1.lt E2.1) K3q.1) (Keep.of_wr W6).1) E7.1) z8_nw1)))
  have f40 := (((R8_3.other W12 (Or.inl x39)).other W14 (Or.inl x39)).other W16 (Or.inl x39))
  have f41 := (((R8_4.other W12 (Or.inl x39)).other W14 (Or.inl x39)).other W16 (Or.inl x39))
  have f42 := (((R8_5.other W12 (Or.inl x39)).other W14 (Or.inl x39)).other W16 (Or.inl x39))
  have x43 := (nS (nL (tL (tL (tL (tL (tL P1.lt E2.1) K3q.1) (Keep.of_wr W6).1) E7.1) z8_nw2)))
  have f44 := (((R8_6.other W12 x43).other W14 x43).other W16 x43)
  have x45 := (nS (nL (tL A2.lt z3_nw1)))
  have x46 := (nS (nL (tL A2.lt z3_nw2)))
  have x47 := (nS (nL (tL (tL (tL (tL A2.lt K3q.1) (Keep.of_wr W6).1) E7.1) z8_nw1)))
  have x48 := (nS (nL (tL A7.lt z8_nw1)))
  have x49 := (nS (nL (tL (tL (tL R3_2.lt (Keep.of_wr W6).1) E7.1) z8_nw1)))
  have x50 := (nS (nL (tL (tL (tL R3_6.lt (Keep.of_wr W6).1) E7.1) z8_nw1)))
  have x51 := (nS (nL (tL (tL (tL (tL A2.lt K3q.1) (Keep.of_wr W6).1) E7.1) z8_nw2)))
  have x52 := (nS (nL (tL A7.lt z8_nw2)))
  have x53 := (nS (nL (tL (tL (tL R3_2.lt (Keep.of_wr W6).1) E7.1) z8_nw2)))
  have x54 := (nS (nL (tL (tL (tL R3_6.lt (Keep.of_wr W6).1) E7.1) z8_nw2)))
  exact gRetV b S16 d2_36 (own_le rfl) (own_le rfl) ⟨b2, b7, nw1_3, nw2_3, nw1_8, nw2_8, kw1_3, kw1_8, rfl, S16.f, S16.k, S16.kf, (S1.sz g2), (S6.sz g7), (S2.sz z3_nw1), (S2.sz z3_nw2), (S7.sz z8_nw1), (S7.sz z8_nw2), f17, f18, f19, F16, f20, f22, f23, f24, f25, f26, f27, f28, f29, f32, f33, f34, f37, f38, f40, f41, f42, f44, (nS x21), x45, x31, x46, x36, R3_7, x47, x48, x49, x50, x51, x52, x53, x54, R8_7⟩
def Q_rm9_8 (Z : State) (ra1 ra2 ra3 : Addr) (h0 : Heap) (n0 : Nat) (v : Option Value) (h : Heap) (L : List Loc) : Prop := v = none ∧ Fr n0 L ∧ Keep h0 h [ra1] ∧ KeepF h0 h [(ra1, some (sl9 Z)), (ra1, some (sl13 Z)), (ra1, some (sl8 Z)), (ra1, some (sl10 Z)), (ra1, some (sl7 Z))] ∧ Fld Z h ra1 ss1 ss13 "I" (.int (-1 : Int32)) ∧ Fld Z h ra1 ss1 ss9 "I" (.int (-1 : Int32)) ∧ Fld Z h ra1 ss1 ss11 "I" (.int (-1 : Int32)) ∧ Fld Z h ra1 ss1 ss15 ss16 (.ref ra2) ∧ Fld Z h ra1 ss1 "kind" ss27 (.ref ra3)
theorem rm9_8 (W : Wd a0 Z) (I0 : IO Z n0 h0) {ra1 ra2 ra3 : Addr} (P0 : Exa Z h0 ra1 ss1) (P1 : Fld Z h0 ra1 ss1 ss13 "I" (.int (0 : Int32))) (P2 : n0 ≤ ra1) (P3 : Fld Z h0 ra1 ss1 ss9 "I" (.int (0 : Int32))) (P4 : Fld Z h0 ra1 ss1 ss11 "I" (.int (0 : Int32))) (P5 : Fld Z h0 ra1 ss1 ss15 ss16 .null) (P6 : Fld Z h0 ra1 ss1 "kind" ss27 .null) : OwnM l yy27 (.code yy27 k9_ 3 none) ⟨1, 0, 0, 12⟩ #[(.ref ra1), (.ref ra2), (.ref ra3)] Z h0 (Q_rm9_8 Z ra1 ra2 ra3 h0 n0) := by
  refine own_open [ra1] [(ra1, some (sl9 Z)), (ra1, some (sl13 Z)), (ra1, some (sl8 Z)), (ra1, some (sl10 Z)), (ra1, some (sl7 Z))] #[.val (.ref ra1), .val (.ref ra2), .val (.ref ra3)] (plainFor_of_name pn_6) I0 ?_
  intro p e s m below meth c T b S0
  refine gAl b S0 d9_0 rfl rfl 1 rfl ?_
  refine gIni b S0 d9_1 (W 73 rfl) (W 12 rfl) (W 13 rfl) rfl (own_le rfl) 0 (own_le rfl) (own_le rfl) 4 rfl fun T1 S1 => ?_
  refine gAl b S1 d9_4 rfl rfl 5 rfl ?_
  refine gIc b S1 d9_5 (-1) rfl 6 rfl ?_
  refine gPf (host := "") b S1 .int d9_6 (.inl (W 74 rfl)) Via.refl P1 P0 (.inl (W 75 rfl)) (W 68 rfl) pf2 rfl rfl P2 (.inl ⟨mI 0 rfl, mI 0 rfl⟩) 9 rfl fun T2 h2 W2 F2 S2 => ?_
  refine gAl b S2 d9_9 rfl rfl 10 rfl ?_
  refine gIc b S2 d9_10 (-1) rfl 11 rfl ?_
  refine gPf (host := "") b S2 .int d9_11 (.inl (W 76 rfl)) Via.refl (P3.other W2 (.inr (sn20 W))) (P0.wr W2) (.inl (W 77 rfl)) (W 68 rfl) pf2 rfl rfl P2 (.inl ⟨mI 0 rfl, mI 1 rfl⟩) 14 rfl fun T3 h3 W3 F3 S3 => ?_
  refine gAl b S3 d9_14 rfl rfl 15 rfl ?_
  refine gIc b S3 d9_15 (-1) rfl 16 rfl ?_
  have f4 := ((P4.other W2 (.inr (sn21 W))).other W3 (.inr (sn22 W)))
  refine gPf (host := "") b S3 .int d9_16 (.inl (W 78 rfl)) Via.refl f4 ((P0.wr W2).wr W3) (.inl (W 79 rfl)) (W 68 rfl) pf2 rfl rfl P2 (.inl ⟨mI 0 rfl, mI 2 rfl⟩) 19 rfl fun T5 h5 W5 F5 S5 => ?_
  refine gAl b S5 d9_19 rfl rfl 20 rfl ?_
  refine gAl b S5 d9_20 rfl rfl 21 rfl ?_
  have f6 := (((P5.other W2 (.inr (sn23 W))).other W3 (.inr (sn24 W))).other W5 (.inr (sn25 W)))
  refine gPf (host := "") b S5 (.object ss8) d9_21 (.inl (W 80 rfl)) Via.refl f6 (((P0.wr W2).wr W3).wr W5) (.inr ⟨(W 81 rfl), rfl, b.2.2.2.2.2.2.1⟩) (W 68 rfl) pf5 rfl rfl P2 (.inl ⟨mI 0 rfl, mI 3 rfl⟩) 24 rfl fun T7 h7 W7 F7 S7 => ?_
  refine gAl b S7 d9_24 rfl rfl 25 rfl ?_
  refine gAl b S7 d9_25 rfl rfl 26 rfl ?_
  have f8 := ((((P6.other W2 (.inr (sn26 W))).other W3 (.inr (sn27 W))).other W5 (.inr (sn28 W))).other W7 (.inr (sn29 W)))
  have f9 := ((((P0.wr W2).wr W3).wr W5).wr W7)
  refine gPf (host := "") b S7 (.object ss4) d9_26 (.inl (W 82 rfl)) Via.refl f8 f9 (.inr ⟨(W 83 rfl), rfl, b.2.2.2.2.2.2.1⟩) (W 68 rfl) pf6 rfl rfl P2 (.inl ⟨mI 0 rfl, mI 4 rfl⟩) 29 rfl fun T10 h10 W10 F10 S10 => ?_
  have f11 := ((((F2.other W3 (.inr (sn30 W))).other W5 (.inr (sn31 W))).other W7 (.inr (sn32 W))).other W10 (.inr (sn33 W)))
  have f12 := (((F3.other W5 (.inr (sn34 W))).other W7 (.inr (sn35 W))).other W10 (.inr (sn36 W)))
  have f13 := ((F5.other W7 (.inr (sn37 W))).other W10 (.inr (sn38 W)))
  exact gRetV b S10 d9_29 (own_le rfl) (own_le rfl) ⟨rfl, S10.f, S10.k, S10.kf, f11, f12, f13, (F7.other W10 (.inr (sn39 W))), F10⟩
def Q_rm15_14 (Z : State)  (h0 : Heap) (n0 : Nat) (v : Option Value) (h : Heap) (L : List Loc) : Prop := v = some (.int (10 : Int32)) ∧ Fr n0 L ∧ h = h0
theorem rm15_14 (W : Wd a0 Z) (I0 : IO Z n0 h0)   : OwnM l yy39 (.code yy39 k15_ 2 (some .int)) ⟨0, 0, 0, 0⟩ #[(.int (10 : Int32)), (.int (1 : Int32))] Z h0 (Q_rm15_14 Z  h0 n0) := by
  refine own_open [] [] #[.val (.int (10 : Int32)), .val (.int (1 : Int32))] (Jvm.Free.JP.mathPlain rfl (by decide +kernel)) I0 ?_
  intro p e s m below meth c T b S0
  refine gIl b S0 d15_0 rfl 1 rfl ?_
  refine gIl b S0 d15_1 rfl 2 rfl ?_
  refine gIcN b S0 d15_2 rfl 5 rfl ?_
  refine gIl b S0 d15_5 rfl 6 rfl ?_
  refine gGoto b S0 d15_6 10 (by decide) rfl ?_
  exact gRetI b S0 d15_10 (own_le rfl) (own_le rfl) ⟨rfl, S0.f, rfl⟩
def Q_rm14_13 (Z : State) (ra1 ra2 : Addr) (ca3 : ClassId) (h0 : Heap) (n0 : Nat) (v : Option Value) (h : Heap) (L : List Loc) : Prop := ∃ nw1 : Addr, ∃ kw1 : ClassId, v = some (.ref nw1) ∧ Fr n0 L ∧ Keep h0 h [ra1] ∧ KeepF h0 h [(ra1, some (sl16 Z))] ∧ h0.size ≤ nw1 ∧ Fld Z h ra1 ss2 ss12 ss7 (.ref nw1) ∧ Arv Z h nw1 kw1 (.object ss4) (10 : Int32) [.null, .null, .null, .null, .null, .null, .null, .null, .null, .null] .null ∧ Ovr Z kw1 ss4
theorem rm14_13 (W : Wd a0 Z) (I0 : IO Z n0 h0) {ra1 ra2 : Addr} {ca3 : ClassId} (P0 : Fld Z h0 ra1 ss2 ss12 ss7 (.ref ra2)) (P1 : Arv Z Z.heap ra2 ca3 (.object ss4) (0 : Int32) [] .null) (P2 : Sta Z Z.heap ss2 ss30 ss7 (.ref ra2)) (P3 : Exa Z h0 ra1 ss2) (P4 : n0 ≤ ra1) : OwnM l yy48 (.code yy48 k14_ 4 (some (.array (.object ss4)))) ⟨1, 1, 10, 14⟩ #[(.ref ra1), (.int (1 : Int32))] Z h0 (Q_rm14_13 Z ra1 ra2 ca3 h0 n0) := by
  refine own_open [ra1] [(ra1, some (sl16 Z))] #[.val (.ref ra1), .val (.int (1 : Int32)), .unset, .unset] (plainFor_of_name pn_3) I0 ?_
  intro p e s m below meth c T b S0
  refine gAl b S0 d14_0 rfl rfl 1 rfl ?_
  refine gGf (host := "") b S0 d14_1 (.inl (W 43 rfl)) Via.refl P0 4 rfl fun T1 S1 => ?_
  refine gLen b S1 d14_4 (P1.ext S1.o.2) 5 rfl ?_
  refine gIs b S1 d14_5 #[.val (.ref ra1), .val (.int (1 : Int32)), .val (.int (0 : Int32)), .unset] rfl 6 rfl ?_
  refine gIl b S1 d14_6 rfl 7 rfl ?_
  refine gIfN b S1 d14_7 rfl 10 rfl ?_
  refine gAl b S1 d14_10 rfl rfl 11 rfl ?_
  refine gGf (host := "") b S1 d14_11 (.inl (W 43 rfl)) Via.refl P0 14 rfl fun T2 S2 => ?_
  refine gGs b S2 d14_14 (W 42 rfl) P2 17 rfl fun T3 S3 => ?_
  refine gAc b S3 d14_17 rfl rfl true (decide_eq_true rfl) 45 (by decide) (by decide) ?_
  refine gAl b S3 d14_45 rfl rfl 46 rfl ?_
  refine gBi b S3 d14_46 10 rfl 48 rfl ?_
  refine gIl b S3 d14_48 rfl 49 rfl ?_
  refine cS b S3 d14_49 (W 119 rfl) (W 120 rfl) (W 121 rfl) (W 122 rfl) (rm15_14 W S3.i) (by decide) (lenOf pd_2 rfl) rfl [(.ref ra1)] rfl 1 (own_le rfl) rfl 52 rfl fun T4 L4 v4 X4 q4 => ?_
  obtain ⟨rfl, N4q, e4⟩ := q4
  have S4 := S3.same X4 N4q e4
  refine gRv ?_
  refine gNewR b S4 d14_52 (W 123 rfl) (W 124 rfl) (by decide) 10 (by decide) (by decide) (own_le rfl) (own_le rfl) 55 rfl fun T5 h5 b5 k5 g5 E5 A5 O5 S5 => ?_
  have V5 : Arv Z h5 b5 k5 (.object ss4) (10 : Int32) [.null, .null, .null, .null, .null, .null, .null, .null, .null, .null] .null := (Arv.new A5 (by decide)).pad (pad_rep [] .null 10)
  refine gDx b S5 d14_55 rfl rfl 56 rfl ?_
  refine gPf (host := "") b S5 (.array (.object ss4)) d14_56 (.inl (W 43 rfl)) Via.refl (P0.ext E5) (P3.ext E5) (.inl (W 44 rfl)) (W 22 rfl) pf3 rfl rfl P4 (.inl ⟨mI 0 rfl, mI 0 rfl⟩) 59 rfl fun T6 h6 W6 F6 S6 => ?_
  have x7 := (nS (nL (tL P0.lt g5)))
  exact gRetA b S6 d14_59 rfl rfl rfl (own_le rfl) (own_le rfl) ⟨b5, k5, rfl, S6.f, S6.k, S6.kf, (S4.sz g5), F6, (V5.other W6 x7), O5⟩
def Q_rm13_12 (Z : State) (ra1 ra2 : Addr) (ca3 : ClassId) (h0 : Heap) (n0 : Nat) (v : Option Value) (h : Heap) (L : List Loc) : Prop := ∃ nw1 : Addr, ∃ kw1 : ClassId, v = some (.ref nw1) ∧ Fr n0 L ∧ Keep h0 h [ra1] ∧ KeepF h0 h [(ra1, some (sl16 Z))] ∧ h0.size ≤ nw1 ∧ Fld Z h ra1 ss2 ss12 ss7 (.ref nw1) ∧ Arv Z h nw1 kw1 (.object ss4) (10 : Int32) [.null, .null, .null, .null, .null, .null, .null, .null, .null, .null] .null ∧ Ovr Z kw1 ss4
theorem rm13_12 (W : Wd a0 Z) (I0 : IO Z n0 h0) {ra1 ra2 : Addr} {ca3 : ClassId} (P0 : Fld Z h0 ra1 ss2 ss3 "I" (.int (0 : Int32))) (P1 : Exa Z h0 ra1 ss2) (P2 : Fld Z h0 ra1 ss2 ss12 ss7 (.ref ra2)) (P3 : Arv Z Z.heap ra2 ca3 (.object ss4) (0 : Int32) [] .null) (P4 : Sta Z Z.heap ss2 ss30 ss7 (.ref ra2)) (P5 : n0 ≤ ra1) : OwnM l yy47 (.code yy47 k13_ 1 (some (.array (.object ss4)))) ⟨2, 1, 10, 29⟩ #[(.ref ra1)] Z h0 (Q_rm13_12 Z ra1 ra2 ca3 h0 n0) := by
  refine own_open [ra1] [(ra1, some (sl16 Z))] #[.val (.ref ra1)] (plainFor_of_name pn_3) I0 ?_
  intro p e s m below meth c T b S0
  refine gAl b S0 d13_0 rfl rfl 1 rfl ?_
  refine gAl b S0 d13_1 rfl rfl 2 rfl ?_
  refine gGf (host := "") b S0 d13_2 (.inl (W 102 rfl)) Via.refl P0 5 rfl fun T1 S1 => ?_
  refine gIc b S1 d13_5 1 rfl 6 rfl ?_
  refine gAdd b S1 d13_6 1 rfl 7 rfl ?_
  refine cP b S1 d13_7 (W 114 rfl) (W 115 rfl) (fun hZ => (mvT hZ (W 117 rfl))) (W 116 rfl) (W 23 rfl) (W 118 rfl) (rm14_13 W S1.i P2 P3 P4 P1 P5) P1 (by decide) (lenOf pd_3 rfl) rfl [] rfl 0 (own_le rfl) rfl 10 rfl fun T2 L2 v2 X2 q2 => ?_
  obtain ⟨nw1_2, kw1_2, rfl, N2q, K2q, KF2q, z2_nw1, R2_0, R2_1, R2_2⟩ := q2
  have S2 := S1.call X2 N2q K2q KF2q (allS (.inl (mI 0 rfl)) all0) (fallS (.inl (mI 0 rfl)) fall0) (allS P5 all0)
  refine gRv ?_
  exact gRetA b S2 d13_10 rfl rfl rfl (own_le rfl) (own_le rfl) ⟨nw1_2, kw1_2, rfl, S2.f, S2.k, S2.kf, (S1.sz z2_nw1), R2_0, R2_1, R2_2⟩
def Q_rm12_11 (Z : State) (ra1 ra2 ra3 : Addr) (ca4 : ClassId) (h0 : Heap) (n0 : Nat) (v : Option Value) (h : Heap) (L : List Loc) : Prop := ∃ nw1 : Addr, ∃ kw1 : ClassId, v = none ∧ Fr n0 L ∧ Keep h0 h [ra1] ∧ KeepF h0 h [(ra1, some (sl16 Z)), (ra1, some (sl17 Z))] ∧ h0.size ≤ nw1 ∧ Fld Z h ra1 ss2 ss12 ss7 (.ref nw1) ∧ Fld Z h ra1 ss2 ss3 "I" (.int (1 : Int32)) ∧ Arv Z h nw1 kw1 (.object ss4) (10 : Int32) [(.ref ra2), .null, .null, .null, .null, .null, .null, .null, .null, .null] .null ∧ Ovr Z kw1 ss4
theorem rm12_11 (W : Wd a0 Z) (I0 : IO Z n0 h0) {ra1 ra2 ra3 : Addr} {ca4 : ClassId} (P0 : Arv Z Z.heap ra3 ca4 (.object ss4) (0 : Int32) [] .null) (P1 : Exa Z h0 ra1 ss2) (P2 : Fld Z h0 ra1 ss2 ss3 "I" (.int (0 : Int32))) (P3 : Fld Z h0 ra1 ss2 ss12 ss7 (.ref ra3)) (P4 : Sta Z Z.heap ss2 ss30 ss7 (.ref ra3)) (P5 : n0 ≤ ra1) (P6 : Exa Z h0 ra2 ss1) : OwnM l yy44 (.code yy44 k12_ 4 none) ⟨3, 1, 10, 41⟩ #[(.ref ra1), (.ref ra2), (.ref ra3), (.int (0 : Int32))] Z h0 (Q_rm12_11 Z ra1 ra2 ra3 ca4 h0 n0) := by
  refine own_open [ra1] [(ra1, some (sl16 Z)), (ra1, some (sl17 Z))] #[.val (.ref ra1), .val (.ref ra2), .val (.ref ra3), .val (.int (0 : Int32))] (plainFor_of_name pn_3) I0 ?_
  intro p e s m below meth c T b S0
  refine gIl b S0 d12_0 rfl 1 rfl ?_
  refine gAl b S0 d12_1 rfl rfl 2 rfl ?_
  refine gLen b S0 d12_2 (P0.ext I0.2.2) 3 rfl ?_
  refine gIcN b S0 d12_3 rfl 6 rfl ?_
  refine gAl b S0 d12_6 rfl rfl 7 rfl ?_
  refine cP b S0 d12_7 (W 109 rfl) (W 110 rfl) (fun hZ => (mvT hZ (W 112 rfl))) (W 111 rfl) (W 23 rfl) (W 113 rfl) (rm13_12 W S0.i P2 P1 P3 P0 P4 P5) P1 (by decide) (lenOf pd_4 rfl) rfl [] rfl 0 (own_le rfl) rfl 10 rfl fun T1 L1 v1 X1 q1 => ?_
  obtain ⟨nw1_1, kw1_1, rfl, N1q, K1q, KF1q, z1_nw1, R1_0, R1_1, R1_2⟩ := q1
  have S1 := S0.call X1 N1q K1q KF1q (allS (.inl (mI 0 rfl)) all0) (fallS (.inl (mI 0 rfl)) fall0) (allS P5 all0)
  refine gRv ?_
  refine gAs b S1 d12_10 rfl #[.val (.ref ra1), .val (.ref ra2), .val (.ref nw1_1), .val (.int (0 : Int32))] rfl 11 rfl ?_
  refine gAl b S1 d12_11 rfl rfl 12 rfl ?_
  refine gIl b S1 d12_12 rfl 13 rfl ?_
  refine gAl b S1 d12_13 rfl rfl 14 rfl ?_
  refine gAast b S1 d12_14 R1_1 R1_2 (Ins.of_exa (P6.keep K1q) (W 125 rfl)) (by decide) (by decide) 0 rfl (own_le rfl) (S0.ge z1_nw1) (.inr (S0.sz z1_nw1)) [(.ref ra2), .null, .null, .null, .null, .null, .null, .null, .null, .null] rfl 15 rfl fun T2 h2 W2 V2 S2 => ?_
  refine gAl b S2 d12_15 rfl rfl 16 rfl ?_
  refine gIl b S2 d12_16 rfl 17 rfl ?_
  refine gIc b S2 d12_17 1 rfl 18 rfl ?_
  refine gAdd b S2 d12_18 1 rfl 19 rfl ?_
  have x3 := (nL (tL P1.lt z1_nw1))
  have f4 := ((P2.kf K1q KF1q (nofB (sn4 W) nof0)).other W2 (Or.inl x3))
  refine gPf (host := "") b S2 .int d12_19 (.inl (W 102 rfl)) Via.refl f4 ((P1.keep K1q).wr W2) (.inl (W 103 rfl)) (W 22 rfl) pf2 rfl rfl P5 (.inl ⟨mI 0 rfl, mI 1 rfl⟩) 22 rfl fun T5 h5 W5 F5 S5 => ?_
  have f6 := ((R1_0.other W2 (Or.inl x3)).other W5 (.inr (sn40 W)))
  exact gRetV b S5 d12_22 (own_le rfl) (own_le rfl) ⟨nw1_1, kw1_1, rfl, S5.f, S5.k, S5.kf, (S0.sz z1_nw1), f6, F5, (V2.other W5 (nS x3)), R1_2⟩
def Q_rm11_10 (Z : State) (ra1 ra2 ra3 : Addr) (ca4 : ClassId) (h0 : Heap) (n0 : Nat) (v : Option Value) (h : Heap) (L : List Loc) : Prop := ∃ nw1 : Addr, ∃ kw1 : ClassId, v = some (.int (1 : Int32)) ∧ Fr n0 L ∧ Keep h0 h [ra1] ∧ KeepF h0 h [(ra1, some (sl23 Z)), (ra1, some (sl17 Z)), (ra1, some (sl16 Z))] ∧ h0.size ≤ nw1 ∧ Fld Z h ra1 ss5 ss6 "I" (.int (1 : Int32)) ∧ Fld Z h ra1 ss2 ss3 "I" (.int (1 : Int32)) ∧ Fld Z h ra1 ss2 ss12 ss7 (.ref nw1) ∧ Arv Z h nw1 kw1 (.object ss4) (10 : Int32) [(.ref ra2), .null, .null, .null, .null, .null, .null, .null, .null, .null] .null ∧ Ovr Z kw1 ss4
theorem rm11_10 (W : Wd a0 Z) (I0 : IO Z n0 h0) {ra1 ra2 ra3 : Addr} {ca4 : ClassId} (P0 : Fld Z h0 ra1 ss5 ss6 "I" (.int (0 : Int32))) (P1 : Exa Z h0 ra1 ss2) (P2 : n0 ≤ ra1) (P3 : Fld Z h0 ra1 ss2 ss12 ss7 (.ref ra3)) (P4 : Fld Z h0 ra1 ss2 ss3 "I" (.int (0 : Int32))) (P5 : Arv Z Z.heap ra3 ca4 (.object ss4) (0 : Int32) [] .null) (P6 : Sta Z Z.heap ss2 ss30 ss7 (.ref ra3)) (P7 : Exa Z h0 ra2 ss1) : OwnM l yy43 (.code yy43 k11_ 2 (some .boolean)) ⟨4, 1, 10, 56⟩ #[(.ref ra1), (.ref ra2)] Z h0 (Q_rm11_10 Z ra1 ra2 ra3 ca4 h0 n0) := by
  refine own_open [ra1] [(ra1, some (sl23 Z)), (ra1, some (sl17 Z)), (ra1, some (sl16 Z))] #[.val (.ref ra1), .val (.ref ra2)] (plainFor_of_name pn_3) I0 ?_
  intro p e s m below meth c T b S0
  refine gAl b S0 d11_0 rfl rfl 1 rfl ?_
  refine gDup b S0 d11_1 rfl 2 rfl ?_
  refine gGf (host := "") b S0 d11_2 (.inl (W 100 rfl)) (Via.of (W 101 rfl)) P0 5 rfl fun T1 S1 => ?_
  refine gIc b S1 d11_5 1 rfl 6 rfl ?_
  refine gAdd b S1 d11_6 1 rfl 7 rfl ?_
  refine gPf (host := "") b S1 .int d11_7 (.inl (W 100 rfl)) (Via.of (W 101 rfl)) P0 P1 (.inl (W 41 rfl)) (W 22 rfl) pf2 rfl rfl P2 (.inl ⟨mI 0 rfl, mI 0 rfl⟩) 10 rfl fun T2 h2 W2 F2 S2 => ?_
  refine gAl b S2 d11_10 rfl rfl 11 rfl ?_
  refine gAl b S2 d11_11 rfl rfl 12 rfl ?_
  refine gAl b S2 d11_12 rfl rfl 13 rfl ?_
  refine gGf (host := "") b S2 d11_13 (.inl (W 43 rfl)) Via.refl (P3.other W2 (.inr (sn0 W))) 16 rfl fun T3 S3 => ?_
  refine gAl b S3 d11_16 rfl rfl 17 rfl ?_
  refine gGf (host := "") b S3 d11_17 (.inl (W 102 rfl)) Via.refl (P4.other W2 (.inr (sn5 W))) 20 rfl fun T4 S4 => ?_
  refine cP b S4 d11_20 (W 104 rfl) (W 105 rfl) (fun hZ => (mvT hZ (W 107 rfl))) (W 106 rfl) (W 23 rfl) (W 108 rfl) (rm12_11 W S4.i P5 (P1.wr W2) (P4.other W2 (.inr (sn5 W))) (P3.other W2 (.inr (sn0 W))) P6 P2 (P7.wr W2)) (P1.wr W2) (by decide) (lenOf pd_5 rfl) rfl [] rfl 0 (own_le rfl) rfl 23 rfl fun T5 L5 v5 X5 q5 => ?_
  obtain ⟨nw1_5, kw1_5, rfl, N5q, K5q, KF5q, z5_nw1, R5_0, R5_1, R5_2, R5_3⟩ := q5
  have S5 := S4.call X5 N5q K5q KF5q (allS (.inl (mI 0 rfl)) all0) (fallS (.inl (mI 2 rfl)) (fallS (.inl (mI 1 rfl)) fall0)) (allS P2 all0)
  refine gRn ?_
  refine gIc b S5 d11_23 1 rfl 24 rfl ?_
  have f6 := (F2.kf K5q KF5q (nofB (sn1 W) (nofB (sn41 W) nof0)))
  exact gRetZ b S5 d11_24 (own_le rfl) (own_le rfl) ⟨nw1_5, kw1_5, rfl, S5.f, S5.k, S5.kf, (S4.sz z5_nw1), f6, R5_1, R5_0, R5_2, R5_3⟩
def Q_rm16_15 (Z : State) (ra1 : Addr) (h0 : Heap) (n0 : Nat) (v : Option Value) (h : Heap) (L : List Loc) : Prop := v = some (.int (1 : Int32)) ∧ Fr n0 L ∧ h = h0
theorem rm16_15 (W : Wd a0 Z) (I0 : IO Z n0 h0) {ra1 : Addr} (P0 : Fld Z h0 ra1 ss2 ss3 "I" (.int (1 : Int32))) : OwnM l yy51 (.code yy51 k16_ 1 (some .int)) ⟨0, 0, 0, 0⟩ #[(.ref ra1)] Z h0 (Q_rm16_15 Z ra1 h0 n0) := by
  refine own_open [] [] #[.val (.ref ra1)] (plainFor_of_name pn_3) I0 ?_
  intro p e s m below meth c T b S0
  refine gAl b S0 d16_0 rfl rfl 1 rfl ?_
  refine gGf (host := "") b S0 d16_1 (.inl (W 102 rfl)) Via.refl P0 4 rfl fun T1 S1 => ?_
  exact gRetI b S1 d16_4 (own_le rfl) (own_le rfl) ⟨rfl, S1.f, rfl⟩
def Q_rm10_9 (Z : State) (ra1 ra2 ra3 ra4 : Addr) (ca5 : ClassId) (h0 : Heap) (n0 : Nat) (v : Option Value) (h : Heap) (L : List Loc) : Prop := ∃ nw1 : Addr, ∃ kw1 : ClassId, v = some (.int (0 : Int32)) ∧ Fr n0 L ∧ Keep h0 h [ra3] ∧ KeepF h0 h [(ra3, some (sl16 Z)), (ra3, some (sl17 Z)), (ra3, some (sl23 Z))] ∧ h0.size ≤ nw1 ∧ Fld Z h ra3 ss2 ss12 ss7 (.ref nw1) ∧ Fld Z h ra3 ss2 ss3 "I" (.int (1 : Int32)) ∧ Fld Z h ra3 ss5 ss6 "I" (.int (1 : Int32)) ∧ Arv Z h nw1 kw1 (.object ss4) (10 : Int32) [(.ref ra2), .null, .null, .null, .null, .null, .null, .null, .null, .null] .null ∧ Ovr Z kw1 ss4
theorem rm10_9 (W : Wd a0 Z) (I0 : IO Z n0 h0) {ra1 ra2 ra3 ra4 : Addr} {ca5 : ClassId} (P0 : Fld Z h0 ra1 ss10 ss26 "I" (.int (0 : Int32))) (P1 : Fld Z h0 ra1 ss10 ss19 ss20 (.ref ra3)) (P2 : Exa Z h0 ra3 ss2) (P3 : Fld Z h0 ra3 ss5 ss6 "I" (.int (0 : Int32))) (P4 : n0 ≤ ra3) (P5 : Fld Z h0 ra3 ss2 ss12 ss7 (.ref ra4)) (P6 : Fld Z h0 ra3 ss2 ss3 "I" (.int (0 : Int32))) (P7 : Arv Z Z.heap ra4 ca5 (.object ss4) (0 : Int32) [] .null) (P8 : Sta Z Z.heap ss2 ss30 ss7 (.ref ra4)) (P9 : Exa Z h0 ra2 ss1) (P10 : ra1 ≠ ra3) : OwnM l yy34 (.code yy34 k10_ 3 (some .int)) ⟨5, 1, 10, 69⟩ #[(.ref ra1), (.ref ra2)] Z h0 (Q_rm10_9 Z ra1 ra2 ra3 ra4 ca5 h0 n0) := by
  refine own_open [ra3] [(ra3, some (sl16 Z)), (ra3, some (sl17 Z)), (ra3, some (sl23 Z))] #[.val (.ref ra1), .val (.ref ra2), .unset] (plainFor_of_name pn_4) I0 ?_
  intro p e s m below meth c T b S0
  refine gAl b S0 d10_0 rfl rfl 1 rfl ?_
  refine gGf (host := "") b S0 d10_1 (.inl (W 89 rfl)) Via.refl P0 4 rfl fun T1 S1 => ?_
  refine gIfN b S1 d10_4 rfl 7 rfl ?_
  refine gAl b S1 d10_7 rfl rfl 8 rfl ?_
  refine gGf (host := "") b S1 d10_8 (.inl (W 45 rfl)) Via.refl P1 11 rfl fun T2 S2 => ?_
  refine gAl b S2 d10_11 rfl rfl 12 rfl ?_
  refine cI (xi := yy58) b S2 d10_12 (W 91 rfl) (W 92 rfl) (fun hZ => mvT hZ (W 93 rfl)) (W 94 rfl) (W 95 rfl) (W 96 rfl) (W 97 rfl) (W 98 rfl) (W 23 rfl) (W 99 rfl) (rm11_10 W S2.i P3 P2 P4 P5 P6 P7 P8 P9) P2 (by decide) (lenOf pd_6 rfl) rfl [] rfl 0 (own_le rfl) rfl 17 rfl fun T3 L3 v3 X3 q3 => ?_
  obtain ⟨nw1_3, kw1_3, rfl, N3q, K3q, KF3q, z3_nw1, R3_0, R3_1, R3_2, R3_3, R3_4⟩ := q3
  have S3 := S2.call X3 N3q K3q KF3q (allS (.inl (mI 0 rfl)) all0) (fallS (.inl (mI 2 rfl)) (fallS (.inl (mI 1 rfl)) (fallS (.inl (mI 0 rfl)) fall0))) (allS P4 all0)
  refine gRv ?_
  refine gPop b S3 d10_17 rfl 18 rfl ?_
  refine gAl b S3 d10_18 rfl rfl 19 rfl ?_
  refine gGf (host := "") b S3 d10_19 (.inl (W 45 rfl)) Via.refl (P1.keep K3q (ninS P10 nin0)) 22 rfl fun T4 S4 => ?_
  refine cI (xi := yy62) b S4 d10_22 (W 126 rfl) (W 127 rfl) (fun hZ => mvT hZ (W 128 rfl)) (W 129 rfl) (W 130 rfl) (W 131 rfl) (W 132 rfl) (W 98 rfl) (W 23 rfl) (W 133 rfl) (rm16_15 W S4.i R3_1) (P2.keep K3q) (by decide) (lenOf pd_7 rfl) rfl [] rfl 0 (own_le rfl) rfl 27 rfl fun T5 L5 v5 X5 q5 => ?_
  obtain ⟨rfl, N5q, e5⟩ := q5
  have S5 := S4.same X5 N5q e5
  refine gRv ?_
  refine gIc b S5 d10_27 1 rfl 28 rfl ?_
  refine gSub b S5 d10_28 0 rfl 29 rfl ?_
  exact gRetI b S5 d10_29 (own_le rfl) (own_le rfl) ⟨nw1_3, kw1_3, rfl, S5.f, S5.k, S5.kf, (S2.sz z3_nw1), R3_2, R3_1, R3_0, R3_3, R3_4⟩
def Q_rm8_7 (Z : State) (ra1 ra2 ra3 ra4 ra5 : Addr) (ca6 : ClassId) (h0 : Heap) (n0 : Nat) (v : Option Value) (h : Heap) (L : List Loc) : Prop := ∃ nw1 : Addr, ∃ nw2 : Addr, ∃ kw1 : ClassId, v = some (.ref nw1) ∧ Fr n0 L ∧ Keep h0 h [ra4] ∧ KeepF h0 h [(ra4, some (sl23 Z)), (ra4, some (sl17 Z)), (ra4, some (sl16 Z))] ∧ h0.size ≤ nw1 ∧ h0.size ≤ nw2 ∧ Fld Z h ra4 ss5 ss6 "I" (.int (1 : Int32)) ∧ Fld Z h ra4 ss2 ss3 "I" (.int (1 : Int32)) ∧ Fld Z h ra4 ss2 ss12 ss7 (.ref nw2) ∧ Exa Z h nw1 ss1 ∧ Fld Z h nw1 ss1 ss17 "I" (.int (0 : Int32)) ∧ Fld Z h nw1 ss1 ss3 "I" (.int (0 : Int32)) ∧ Fld Z h nw1 ss1 ss21 "I" (.int (0 : Int32)) ∧ Fld Z h nw1 ss1 ss13 "I" (.int (-1 : Int32)) ∧ Fld Z h nw1 ss1 ss9 "I" (.int (-1 : Int32)) ∧ Fld Z h nw1 ss1 ss11 "I" (.int (-1 : Int32)) ∧ Fld Z h nw1 ss1 ss15 ss16 (.ref ra1) ∧ Fld Z h nw1 ss1 "kind" ss27 (.ref ra2) ∧ Arv Z h nw2 kw1 (.object ss4) (10 : Int32) [(.ref nw1), .null, .null, .null, .null, .null, .null, .null, .null, .null] .null ∧ Ovr Z kw1 ss4 ∧ nw2 ≠ nw1
theorem rm8_7 (W : Wd a0 Z) (I0 : IO Z n0 h0) {ra1 ra2 ra3 ra4 ra5 : Addr} {ca6 : ClassId} (P0 : Fld Z h0 ra1 ss8 ss22 ss18 (.ref ra3)) (P1 : Exa Z h0 ra3 ss10) (P2 : Fld Z h0 ra3 ss10 ss26 "I" (.int (0 : Int32))) (P3 : Fld Z h0 ra3 ss10 ss19 ss20 (.ref ra4)) (P4 : Exa Z h0 ra4 ss2) (P5 : Fld Z h0 ra4 ss5 ss6 "I" (.int (0 : Int32))) (P6 : n0 ≤ ra4) (P7 : Fld Z h0 ra4 ss2 ss12 ss7 (.ref ra5)) (P8 : Fld Z h0 ra4 ss2 ss3 "I" (.int (0 : Int32))) (P9 : Arv Z Z.heap ra5 ca6 (.object ss4) (0 : Int32) [] .null) (P10 : Sta Z Z.heap ss2 ss30 ss7 (.ref ra5)) (P11 : ra3 ≠ ra4) : OwnM l yy17 (.code yy17 k8_ 3 (some (.object ss1))) ⟨6, 2, 18, 84⟩ #[(.ref ra1), (.ref ra2)] Z h0 (Q_rm8_7 Z ra1 ra2 ra3 ra4 ra5 ca6 h0 n0) := by
  refine own_open [ra4] [(ra4, some (sl23 Z)), (ra4, some (sl17 Z)), (ra4, some (sl16 Z))] #[.val (.ref ra1), .val (.ref ra2), .unset] (plainFor_of_name pn_5) I0 ?_
  intro p e s m below meth c T b S0
  refine gNew b S0 d8_0 (W 67 rfl) (W 68 rfl) (W 69 rfl) (own_le rfl) (own_le rfl) 3 rfl fun T1 h1 b1 g1 E1 A1 D1 S1 => ?_
  refine gDup b S1 d8_3 rfl 4 rfl ?_
  refine gAl b S1 d8_4 rfl rfl 5 rfl ?_
  refine gAl b S1 d8_5 rfl rfl 6 rfl ?_
  refine cNR b S1 d8_6 (W 70 rfl) (W 71 rfl) (W 69 rfl) (W 72 rfl) (rm9_8 W S1.i A1 (own_dI @D1 (.inl (W 75 rfl)) pf2) (S0.ge g1) (own_dI @D1 (.inl (W 77 rfl)) pf2) (own_dI @D1 (.inl (W 79 rfl)) pf2) (own_dN @D1 (.inr (W 81 rfl)) pf5) (own_dN @D1 (.inr (W 83 rfl)) pf6)) rfl (by decide) (lenOf pd_1 rfl) rfl [(.ref b1)] rfl 1 (own_le rfl) rfl 9 rfl fun T2 L2 v2 X2 q2 => ?_
  obtain ⟨rfl, N2q, K2q, KF2q, R2_0, R2_1, R2_2, R2_3, R2_4⟩ := q2
  have S2 := S1.call X2 N2q K2q KF2q (allS (.inr (S0.sz g1)) all0) (fallS (.inr (.inr (S0.sz g1))) (fallS (.inr (.inr (S0.sz g1))) (fallS (.inr (.inr (S0.sz g1))) (fallS (.inr (.inr (S0.sz g1))) (fallS (.inr (.inr (S0.sz g1))) fall0))))) (allS (S0.ge g1) all0)
  refine gRn ?_
  refine gAs b S2 d8_9 rfl #[.val (.ref ra1), .val (.ref ra2), .val (.ref b1)] rfl 10 rfl ?_
  refine gAl b S2 d8_10 rfl rfl 11 rfl ?_
  refine gAl b S2 d8_11 rfl rfl 12 rfl ?_
  have x3 := (nL (tL P0.lt g1))
  have f4 := ((P0.ext E1).keep K2q (ninS x3 nin0))
  refine gGf (host := "") b S2 d8_12 (.inl (W 52 rfl)) Via.refl f4 15 rfl fun T5 S5 => ?_
  refine gAl b S5 d8_15 rfl rfl 16 rfl ?_
  have x6 := (nL (tL P1.lt g1))
  have f7 := ((P2.ext E1).keep K2q (ninS x6 nin0))
  have f8 := ((P3.ext E1).keep K2q (ninS x6 nin0))
  have x9 := (nL (tL P4.lt g1))
  have f10 := ((P5.ext E1).keep K2q (ninS x9 nin0))
  have f11 := ((P7.ext E1).keep K2q (ninS x9 nin0))
  have f12 := ((P8.ext E1).keep K2q (ninS x9 nin0))
  refine cV b S5 d8_16 (W 84 rfl) (W 85 rfl) (W 87 rfl) (W 86 rfl) (W 16 rfl) (W 88 rfl) (rm10_9 W S5.i f7 f8 ((P4.ext E1).keep K2q) f10 P6 f11 f12 P9 P10 (A1.keep K2q) P11) ((P1.ext E1).keep K2q) (by decide) (lenOf pd_8 rfl) rfl [(.ref b1)] rfl 1 (own_le rfl) rfl 19 rfl fun T13 L13 v13 X13 q13 => ?_
  obtain ⟨nw1_13, kw1_13, rfl, N13q, K13q, KF13q, z13_nw1, R13_0, R13_1, R13_2, R13_3, R13_4⟩ := q13
  have S13 := S5.call X13 N13q K13q KF13q (allS (.inl (mI 0 rfl)) all0) (fallS (.inl (mI 2 rfl)) (fallS (.inl (mI 1 rfl)) (fallS (.inl (mI 0 rfl)) fall0))) (allS P6 all0)
  refine gRv ?_
  have f14 := (((own_dI @D1 (.inl (W 135 rfl)) pf2).kf K2q KF2q (nofB (sn46 W) (nofB (sn45 W) (nofB (sn44 W) (nofB (sn43 W) (nofB (sn42 W) nof0)))))).keep K13q (ninS (nS x9) nin0))
  refine gPfR b S13 .int d8_19 (W 134 rfl) Via.refl f14 ((A1.keep K2q).keep K13q) (W 135 rfl) (W 68 rfl) pf2 rfl rfl (S0.ge g1) (.inr (S0.sz g1)) 22 rfl fun T15 h15 W15 F15 S15 => ?_
  refine gAl b S15 d8_22 rfl rfl 23 rfl ?_
  have f16 := (((A1.keep K2q).keep K13q).wr W15)
  have f17 := ((((own_dI @D1 (.inl (W 195 rfl)) pf2).kf K2q KF2q (nofB (sn51 W) (nofB (sn50 W) (nofB (sn49 W) (nofB (sn48 W) (nofB (sn47 W) nof0)))))).keep K13q (ninS (nS x9) nin0)).other W15 (.inr (sn52 W)))
  have f18 := ((((own_dI @D1 (.inl (W 298 rfl)) pf2).kf K2q KF2q (nofB (sn57 W) (nofB (sn56 W) (nofB (sn55 W) (nofB (sn54 W) (nofB (sn53 W) nof0)))))).keep K13q (ninS (nS x9) nin0)).other W15 (.inr (sn58 W)))
  have f19 := ((R2_0.keep K13q (ninS (nS x9) nin0)).other W15 (.inr (sn59 W)))
  have f20 := ((R2_1.keep K13q (ninS (nS x9) nin0)).other W15 (.inr (sn60 W)))
  have f21 := ((R2_2.keep K13q (ninS (nS x9) nin0)).other W15 (.inr (sn61 W)))
  have f22 := ((R2_3.keep K13q (ninS (nS x9) nin0)).other W15 (.inr (sn62 W)))
  have f23 := ((R2_4.keep K13q (ninS (nS x9) nin0)).other W15 (.inr (sn63 W)))
  have x24 := (nS (nL (tL (tL A1.lt K2q.1) z13_nw1)))
  exact gRetA b S15 d8_23 rfl rfl rfl (own_le rfl) (own_le rfl) ⟨b1, nw1_13, kw1_13, rfl, S15.f, S15.k, S15.kf, (S0.sz g1), (S5.sz z13_nw1), (R13_2.other W15 (Or.inl x9)), (R13_1.other W15 (Or.inl x9)), (R13_0.other W15 (Or.inl x9)), f16, F15, f17, f18, f19, f20, f21, f22, f23, (R13_3.other W15 x24), R13_4, x24⟩
def Q_rm1_1 (Z : State) (ra1 ra2 ra3 : Addr) (ca4 : ClassId) (h0 : Heap) (n0 : Nat) (v : Option Value) (h : Heap) (L : List Loc) : Prop := ∃ nw1 : Addr, ∃ nw2 : Addr, ∃ nw3 : Addr, ∃ nw4 : Addr, ∃ nw5 : Addr, ∃ nw6 : Addr, ∃ nw7 : Addr, ∃ nw8 : Addr, ∃ kw1 : ClassId, ∃ kw2 : ClassId, ∃ kw3 : ClassId, v = none ∧ Fr n0 L ∧ Keep h0 h [ra1] ∧ KeepF h0 h [(ra1, some (sl24 Z)), (ra1, some (sl26 Z)), (ra1, some (sl25 Z)), (ra1, some (sl27 Z)), (ra1, some (sl22 Z))] ∧ h0.size ≤ nw1 ∧ h0.size ≤ nw2 ∧ h0.size ≤ nw3 ∧ h0.size ≤ nw4 ∧ h0.size ≤ nw5 ∧ h0.size ≤ nw6 ∧ h0.size ≤ nw7 ∧ h0.size ≤ nw8 ∧ Fld Z h ra1 ss8 "last" "I" (.int (-1 : Int32)) ∧ Fld Z h ra1 ss8 ss24 "I" (.int (-1 : Int32)) ∧ Fld Z h ra1 ss8 ss22 ss18 (.ref nw1) ∧ Fld Z h ra1 ss8 ss31 ss18 (.ref nw2) ∧ Fld Z h ra1 ss28 ss34 ss35 (.ref nw3) ∧ Exa Z h nw1 ss10 ∧ Fld Z h nw1 ss10 ss26 "I" (.int (0 : Int32)) ∧ Fld Z h nw1 ss10 ss19 ss20 (.ref nw4) ∧ Fld Z h nw1 ss10 "free" "[I" (.ref nw5) ∧ Exa Z h nw2 ss10 ∧ Fld Z h nw2 ss10 ss26 "I" (.int (0 : Int32)) ∧ Fld Z h nw2 ss10 ss19 ss20 (.ref nw6) ∧ Fld Z h nw2 ss10 "free" "[I" (.ref nw7) ∧ Exa Z h nw3 ss1 ∧ Fld Z h nw3 ss1 ss17 "I" (.int (0 : Int32)) ∧ Fld Z h nw3 ss1 ss3 "I" (.int (0 : Int32)) ∧ Fld Z h nw3 ss1 ss21 "I" (.int (0 : Int32)) ∧ Fld Z h nw3 ss1 ss13 "I" (.int (-1 : Int32)) ∧ Fld Z h nw3 ss1 ss9 "I" (.int (-1 : Int32)) ∧ Fld Z h nw3 ss1 ss11 "I" (.int (-1 : Int32)) ∧ Fld Z h nw3 ss1 ss15 ss16 (.ref ra1) ∧ Fld Z h nw3 ss1 "kind" ss27 (.ref ra3) ∧ Exa Z h nw4 ss2 ∧ Fld Z h nw4 ss5 ss6 "I" (.int (1 : Int32)) ∧ Fld Z h nw4 ss2 ss3 "I" (.int (1 : Int32)) ∧ Fld Z h nw4 ss2 ss12 ss7 (.ref nw8) ∧ Arv Z h nw5 kw1 .int (0 : Int32) [] (.int (0 : Int32)) ∧ Exa Z h nw6 ss2 ∧ Fld Z h nw6 ss2 ss3 "I" (.int (0 : Int32)) ∧ Fld Z h nw6 ss5 ss6 "I" (.int (0 : Int32)) ∧ Fld Z h nw6 ss2 ss12 ss7 (.ref ra2) ∧ Arv Z h nw7 kw2 .int (0 : Int32) [] (.int (0 : Int32)) ∧ Arv Z h nw8 kw3 (.object ss4) (10 : Int32) [(.ref nw3), .null, .null, .null, .null, .null, .null, .null, .null, .null] .null ∧ Ovr Z kw3 ss4 ∧ nw2 ≠ nw1 ∧ nw3 ≠ nw1 ∧ nw3 ≠ nw2 ∧ nw4 ≠ nw1 ∧ nw4 ≠ nw2 ∧ nw4 ≠ nw3 ∧ nw5 ≠ nw1 ∧ nw5 ≠ nw2 ∧ nw5 ≠ nw3 ∧ nw5 ≠ nw4 ∧ nw6 ≠ nw1 ∧ nw6 ≠ nw2 ∧ nw6 ≠ nw3 ∧ nw6 ≠ nw4 ∧ nw6 ≠ nw5 ∧ nw7 ≠ nw1 ∧ nw7 ≠ nw2 ∧ nw7 ≠ nw3 ∧ nw7 ≠ nw4 ∧ nw7 ≠ nw5 ∧ nw7 ≠ nw6 ∧ nw8 ≠ nw1 ∧ nw8 ≠ nw2 ∧ nw8 ≠ nw3 ∧ nw8 ≠ nw4 ∧ nw8 ≠ nw5 ∧ nw8 ≠ nw6 ∧ nw8 ≠ nw7
theorem rm1_1 (W : Wd a0 Z) (I0 : IO Z n0 h0) {ra1 ra2 ra3 : Addr} {ca4 : ClassId} (P0 : Sta Z Z.heap ss2 ss30 ss7 (.ref ra2)) (P1 : Exa Z h0 ra1 ss28) (P2 : Fld Z h0 ra1 ss8 ss31 ss18 .null) (P3 : n0 ≤ ra1) (P4 : Fld Z h0 ra1 ss8 ss22 ss18 .null) (P5 : Fld Z h0 ra1 ss8 ss24 "I" (.int (0 : Int32))) (P6 : Fld Z h0 ra1 ss8 "last" "I" (.int (0 : Int32))) (P7 : Sta Z Z.heap ss32 "ISOLATED" ss33 (.ref ra3)) (P8 : Arv Z Z.heap ra2 ca4 (.object ss4) (0 : Int32) [] .null) (P9 : Fld Z h0 ra1 ss28 ss34 ss35 .null) : OwnM l yy2 (.code yy2 k1_ 1 none) ⟨7, 8, 30, 99⟩ #[(.ref ra1)] Z h0 (Q_rm1_1 Z ra1 ra2 ra3 ca4 h0 n0) := by
  refine own_open [ra1] [(ra1, some (sl24 Z)), (ra1, some (sl26 Z)), (ra1, some (sl25 Z)), (ra1, some (sl27 Z)), (ra1, some (sl22 Z))] #[.val (.ref ra1)] (plainFor_of_name pn_7) I0 ?_
  intro p e s m below meth c T b S0
  refine gAl b S0 d1_0 rfl rfl 1 rfl ?_
  refine cN b S0 d1_1 (W 6 rfl) (W 7 rfl) (W 9 rfl) (W 10 rfl) (rm2_2 W S0.i P0 P1 P2 P3 P4 P5 P6) rfl (by decide) (lenOf pd_0 rfl) rfl [] rfl 0 (own_le rfl) rfl 4 rfl fun T1 L1 v1 X1 q1 => ?_
  obtain ⟨nw1_1, nw2_1, nw3_1, nw4_1, nw5_1, nw6_1, kw1_1, kw2_1, rfl, N1q, K1q, KF1q, z1_nw1, z1_nw2, z1_nw3, z1_nw4, z1_nw5, z1_nw6, R1_0, R1_1, R1_2, R1_3, R1_4, R1_5, R1_6, R1_7, R1_8, R1_9, R1_10, R1_11, R1_12, R1_13, R1_14, R1_15, R1_16, R1_17, R1_18, R1_19, R1_20, R1_21, R1_22, R1_23, R1_24, R1_25, R1_26, R1_27, R1_28, R1_29, R1_30, R1_31, R1_32, R1_33, R1_34, R1_35, R1_36⟩ := q1
  have S1 := S0.call X1 N1q K1q KF1q (allS (.inl (mI 0 rfl)) all0) (fallS (.inl (mI 3 rfl)) (fallS (.inl (mI 2 rfl)) (fallS (.inl (mI 1 rfl)) (fallS (.inl (mI 0 rfl)) fall0)))) (allS P3 all0)
  refine gRn ?_
  refine gAl b S1 d1_4 rfl rfl 5 rfl ?_
  refine gAl b S1 d1_5 rfl rfl 6 rfl ?_
  refine gGs b S1 d1_6 (W 58 rfl) P7 9 rfl fun T2 S2 => ?_
  have x3 := (nS R1_29)
  refine cU (owner := ss8) (x := yy5) b S2 d1_9 (W 61 rfl) (W 62 rfl) (W 63 rfl) (W 65 rfl) (W 64 rfl) (W 9 rfl) (W 66 rfl) (rm8_7 W S2.i R1_1 R1_8 R1_9 R1_10 R1_17 R1_19 (S0.ge z1_nw5) R1_20 R1_18 P8 P0 x3) (P1.keep K1q) (by decide) (lenOf pd_9 rfl) rfl [(.ref ra1)] rfl 1 (own_le rfl) rfl 12 rfl fun T4 L4 v4 X4 q4 => ?_
  obtain ⟨nw1_4, nw2_4, kw1_4, rfl, N4q, K4q, KF4q, z4_nw1, z4_nw2, R4_0, R4_1, R4_2, R4_3, R4_4, R4_5, R4_6, R4_7, R4_8, R4_9, R4_10, R4_11, R4_12, R4_13, R4_14⟩ := q4
  have S4 := S2.call X4 N4q K4q KF4q (allS (.inr (S0.sz z1_nw5)) all0) (fallS (.inr (.inr (S0.sz z1_nw5))) (fallS (.inr (.inr (S0.sz z1_nw5))) (fallS (.inr (.inr (S0.sz z1_nw5))) fall0))) (allS (S0.ge z1_nw5) all0)
  refine gRv ?_
  have x5 := (nL (tL P1.lt z1_nw5))
  have f6 := ((P9.kf K1q KF1q (nofB (sn67 W) (nofB (sn66 W) (nofB (sn65 W) (nofB (sn64 W) nof0))))).keep K4q (ninS x5 nin0))
  refine gPf (host := "") b S4 (.object ss1) d1_12 (.inl (W 136 rfl)) Via.refl f6 ((P1.keep K1q).keep K4q) (.inr ⟨(W 137 rfl), rfl, b.2.2.2.2.2.2.1⟩) (W 1 rfl) pf7 rfl rfl P3 (.inl ⟨mI 0 rfl, mI 4 rfl⟩) 15 rfl fun T7 h7 W7 F7 S7 => ?_
  have f8 := ((R1_3.keep K4q (ninS x5 nin0)).other W7 (.inr (sn68 W)))
  have f9 := ((R1_2.keep K4q (ninS x5 nin0)).other W7 (.inr (sn69 W)))
  have f10 := ((R1_1.keep K4q (ninS x5 nin0)).other W7 (.inr (sn70 W)))
  have f11 := ((R1_0.keep K4q (ninS x5 nin0)).other W7 (.inr (sn71 W)))
  have x12 := (nS (nL (tL P1.lt z1_nw2)))
  have f13 := ((R1_9.keep K4q (ninS x3 nin0)).other W7 (Or.inl x12))
  have f14 := ((R1_10.keep K4q (ninS x3 nin0)).other W7 (Or.inl x12))
  have f15 := ((R1_11.keep K4q (ninS x3 nin0)).other W7 (Or.inl x12))
  have x16 := (nS R1_28)
  have x17 := (nS (nL (tL P1.lt z1_nw1)))
  have f18 := ((R1_5.keep K4q (ninS x16 nin0)).other W7 (Or.inl x17))
  have f19 := ((R1_6.keep K4q (ninS x16 nin0)).other W7 (Or.inl x17))
  have f20 := ((R1_7.keep K4q (ninS x16 nin0)).other W7 (Or.inl x17))
  have x21 := (nS (nL (tL (tL P1.lt K1q.1) z4_nw1)))
  have f22 := (R4_0.other W7 (Or.inl (nS x5)))
  have f23 := (R4_1.other W7 (Or.inl (nS x5)))
  have f24 := (R4_2.other W7 (Or.inl (nS x5)))
  have x25 := (nS (nL (tL P1.lt z1_nw6)))
  have f26 := ((R1_21.keep K4q (ninS R1_36 nin0)).other W7 x25)
  have x27 := (nS R1_30)
  have x28 := (nS (nL (tL P1.lt z1_nw3)))
  have f29 := ((R1_13.keep K4q (ninS x27 nin0)).other W7 (Or.inl x28))
  have f30 := ((R1_14.keep K4q (ninS x27 nin0)).other W7 (Or.inl x28))
  have f31 := ((R1_15.keep K4q (ninS x27 nin0)).other W7 (Or.inl x28))
  have x32 := (nS R1_31)
  have x33 := (nS (nL (tL P1.lt z1_nw4)))
  have f34 := ((R1_16.keep K4q (ninS x32 nin0)).other W7 x33)
  have x35 := (nS (nL (tL (tL P1.lt K1q.1) z4_nw2)))
  have x36 := (nS R1_22)
  have x37 := (nS (nL (tL R1_8.lt z4_nw1)))
  have x38 := (nS (nL (tL R1_4.lt z4_nw1)))
  have x39 := (nL (tL R1_17.lt z4_nw1))
  have x40 := (nL (tL R1_21.lt z4_nw1))
  have x41 := (nL (tL R1_12.lt z4_nw1))
  have x42 := (nS R1_34)
  have x43 := (nL (tL R1_16.lt z4_nw1))
  have x44 := (nS R1_35)
  have x45 := (nS (nL (tL R1_8.lt z4_nw2)))
  have x46 := (nS (nL (tL R1_4.lt z4_nw2)))
  have x47 := (nS (nL (tL R1_17.lt z4_nw2)))
  have x48 := (nS (nL (tL R1_21.lt z4_nw2)))
  have x49 := (nS (nL (tL R1_12.lt z4_nw2)))
  have x50 := (nS (nL (tL R1_16.lt z4_nw2)))
  exact gRetV b S7 d1_15 (own_le rfl) (own_le rfl) ⟨nw2_1, nw1_1, nw1_4, nw5_1, nw6_1, nw3_1, nw4_1, nw2_4, kw2_1, kw1_1, kw1_4, rfl, S7.f, S7.k, S7.kf, (S0.sz z1_nw2), (S0.sz z1_nw1), (S2.sz z4_nw1), (S0.sz z1_nw5), (S0.sz z1_nw6), (S0.sz z1_nw3), (S0.sz z1_nw4), (S2.sz z4_nw2), f8, f9, f10, f11, F7, ((R1_8.keep K4q).wr W7), f13, f14, f15, ((R1_4.keep K4q).wr W7), f18, f19, f20, (R4_3.wr W7), (R4_4.other W7 (Or.inl x21)), (R4_5.other W7 (Or.inl x21)), (R4_6.other W7 (Or.inl x21)), (R4_7.other W7 (Or.inl x21)), (R4_8.other W7 (Or.inl x21)), (R4_9.other W7 (Or.inl x21)), (R4_10.other W7 (Or.inl x21)), (R4_11.other W7 (Or.inl x21)), ((R1_17.keep K4q).wr W7), f22, f23, f24, f26, ((R1_12.keep K4q).wr W7), f29, f30, f31, f34, (R4_12.other W7 x35), R4_13, x36, x37, x38, R1_29, R1_28, x39, R1_33, R1_32, x40, R1_36, R1_24, R1_23, x41, x27, x42, R1_26, R1_25, x43, x32, x44, R1_27, x45, x46, R4_14, x47, x48, x49, x50⟩
def Q_rm17_16 (Z : State) (ra1 ra2 : Addr) (h0 : Heap) (n0 : Nat) (v : Option Value) (h : Heap) (L : List Loc) : Prop := v = none ∧ Fr n0 L ∧ Keep h0 h [ra1] ∧ KeepF h0 h [(ra1, some (sl4 Z)), (ra1, some (sl2 Z)), (ra1, some (sl6 Z)), (ra1, some (sl1 Z)), (ra1, some (sl0 Z))] ∧ Fld Z h ra1 ss0 ss17 "I" (.int (-1 : Int32)) ∧ Fld Z h ra1 ss0 ss14 "I" (.int (-1 : Int32)) ∧ Fld Z h ra1 ss0 ss9 "I" (.int (-1 : Int32)) ∧ Fld Z h ra1 ss0 ss11 "I" (.int (-1 : Int32)) ∧ Fld Z h ra1 ss0 "name" ss38 (.ref ra2)
theorem rm17_16 (W : Wd a0 Z) (I0 : IO Z n0 h0) {ra1 ra2 : Addr} (P0 : Exa Z h0 ra1 ss0) (P1 : Fld Z h0 ra1 ss0 ss17 "I" (.int (0 : Int32))) (P2 : n0 ≤ ra1) (P3 : Fld Z h0 ra1 ss0 ss14 "I" (.int (0 : Int32))) (P4 : Fld Z h0 ra1 ss0 ss9 "I" (.int (0 : Int32))) (P5 : Fld Z h0 ra1 ss0 ss11 "I" (.int (0 : Int32))) (P6 : Fld Z h0 ra1 ss0 "name" ss38 .null) : OwnM l yy36 (.code yy36 k17_ 2 none) ⟨1, 0, 0, 12⟩ #[(.ref ra1), (.ref ra2)] Z h0 (Q_rm17_16 Z ra1 ra2 h0 n0) := by
  refine own_open [ra1] [(ra1, some (sl4 Z)), (ra1, some (sl2 Z)), (ra1, some (sl6 Z)), (ra1, some (sl1 Z)), (ra1, some (sl0 Z))] #[.val (.ref ra1), .val (.ref ra2)] (plainFor_of_name pn_8) I0 ?_
  intro p e s m below meth c T b S0
  refine gAl b S0 d17_0 rfl rfl 1 rfl ?_
  refine gIni b S0 d17_1 (W 152 rfl) (W 12 rfl) (W 13 rfl) rfl (own_le rfl) 0 (own_le rfl) (own_le rfl) 4 rfl fun T1 S1 => ?_
  refine gAl b S1 d17_4 rfl rfl 5 rfl ?_
  refine gIc b S1 d17_5 (-1) rfl 6 rfl ?_
  refine gPf (host := "") b S1 .int d17_6 (.inl (W 153 rfl)) Via.refl P1 P0 (.inl (W 154 rfl)) (W 139 rfl) pf2 rfl rfl P2 (.inl ⟨mI 0 rfl, mI 0 rfl⟩) 9 rfl fun T2 h2 W2 F2 S2 => ?_
  refine gAl b S2 d17_9 rfl rfl 10 rfl ?_
  refine gIc b S2 d17_10 (-1) rfl 11 rfl ?_
  refine gPf (host := "") b S2 .int d17_11 (.inl (W 155 rfl)) Via.refl (P3.other W2 (.inr (sn72 W))) (P0.wr W2) (.inl (W 156 rfl)) (W 139 rfl) pf2 rfl rfl P2 (.inl ⟨mI 0 rfl, mI 1 rfl⟩) 14 rfl fun T3 h3 W3 F3 S3 => ?_
  refine gAl b S3 d17_14 rfl rfl 15 rfl ?_
  refine gIc b S3 d17_15 (-1) rfl 16 rfl ?_
  have f4 := ((P4.other W2 (.inr (sn73 W))).other W3 (.inr (sn74 W)))
  refine gPf (host := "") b S3 .int d17_16 (.inl (W 157 rfl)) Via.refl f4 ((P0.wr W2).wr W3) (.inl (W 158 rfl)) (W 139 rfl) pf2 rfl rfl P2 (.inl ⟨mI 0 rfl, mI 2 rfl⟩) 19 rfl fun T5 h5 W5 F5 S5 => ?_
  refine gAl b S5 d17_19 rfl rfl 20 rfl ?_
  refine gIc b S5 d17_20 (-1) rfl 21 rfl ?_
  have f6 := (((P5.other W2 (.inr (sn75 W))).other W3 (.inr (sn76 W))).other W5 (.inr (sn77 W)))
  refine gPf (host := "") b S5 .int d17_21 (.inl (W 159 rfl)) Via.refl f6 (((P0.wr W2).wr W3).wr W5) (.inl (W 160 rfl)) (W 139 rfl) pf2 rfl rfl P2 (.inl ⟨mI 0 rfl, mI 3 rfl⟩) 24 rfl fun T7 h7 W7 F7 S7 => ?_
  refine gAl b S7 d17_24 rfl rfl 25 rfl ?_
  refine gAl b S7 d17_25 rfl rfl 26 rfl ?_
  have f8 := ((((P6.other W2 (.inr (sn78 W))).other W3 (.inr (sn79 W))).other W5 (.inr (sn80 W))).other W7 (.inr (sn81 W)))
  have f9 := ((((P0.wr W2).wr W3).wr W5).wr W7)
  refine gPf (host := "") b S7 (.object "java/lang/String") d17_26 (.inl (W 161 rfl)) Via.refl f8 f9 (.inr ⟨(W 162 rfl), rfl, b.2.2.2.2.2.2.1⟩) (W 139 rfl) pf8 rfl rfl P2 (.inl ⟨mI 0 rfl, mI 4 rfl⟩) 29 rfl fun T10 h10 W10 F10 S10 => ?_
  have f11 := ((((F2.other W3 (.inr (sn82 W))).other W5 (.inr (sn83 W))).other W7 (.inr (sn84 W))).other W10 (.inr (sn85 W)))
  have f12 := (((F3.other W5 (.inr (sn86 W))).other W7 (.inr (sn87 W))).other W10 (.inr (sn88 W)))
  have f13 := ((F5.other W7 (.inr (sn89 W))).other W10 (.inr (sn90 W)))
  exact gRetV b S10 d17_29 (own_le rfl) (own_le rfl) ⟨rfl, S10.f, S10.k, S10.kf, f11, f12, f13, (F7.other W10 (.inr (sn91 W))), F10⟩
def Q_rm12_18 (Z : State) (ra1 ra2 ra3 : Addr) (ca4 : ClassId) (h0 : Heap) (n0 : Nat) (v : Option Value) (h : Heap) (L : List Loc) : Prop := ∃ nw1 : Addr, ∃ kw1 : ClassId, v = none ∧ Fr n0 L ∧ Keep h0 h [ra1] ∧ KeepF h0 h [(ra1, some (sl16 Z)), (ra1, some (sl17 Z))] ∧ h0.size ≤ nw1 ∧ Fld Z h ra1 ss2 ss12 ss7 (.ref nw1) ∧ Fld Z h ra1 ss2 ss3 "I" (.int (1 : Int32)) ∧ Arv Z h nw1 kw1 (.object ss4) (10 : Int32) [(.ref ra2), .null, .null, .null, .null, .null, .null, .null, .null, .null] .null ∧ Ovr Z kw1 ss4
theorem rm12_18 (W : Wd a0 Z) (I0 : IO Z n0 h0) {ra1 ra2 ra3 : Addr} {ca4 : ClassId} (P0 : Arv Z Z.heap ra3 ca4 (.object ss4) (0 : Int32) [] .null) (P1 : Exa Z h0 ra1 ss2) (P2 : Fld Z h0 ra1 ss2 ss3 "I" (.int (0 : Int32))) (P3 : Fld Z h0 ra1 ss2 ss12 ss7 (.ref ra3)) (P4 : Sta Z Z.heap ss2 ss30 ss7 (.ref ra3)) (P5 : n0 ≤ ra1) (P6 : Exa Z h0 ra2 ss0) : OwnM l yy44 (.code yy44 k12_ 4 none) ⟨3, 1, 10, 41⟩ #[(.ref ra1), (.ref ra2), (.ref ra3), (.int (0 : Int32))] Z h0 (Q_rm12_18 Z ra1 ra2 ra3 ca4 h0 n0) := by
  refine own_open [ra1] [(ra1, some (sl16 Z)), (ra1, some (sl17 Z))] #[.val (.ref ra1), .val (.ref ra2), .val (.ref ra3), .val (.int (0 : Int32))] (plainFor_of_name pn_3) I0 ?_
  intro p e s m below meth c T b S0
  refine gIl b S0 d12_0 rfl 1 rfl ?_
  refine gAl b S0 d12_1 rfl rfl 2 rfl ?_
  refine gLen b S0 d12_2 (P0.ext I0.2.2) 3 rfl ?_
  refine gIcN b S0 d12_3 rfl 6 rfl ?_
  refine gAl b S0 d12_6 rfl rfl 7 rfl ?_
  refine cP b S0 d12_7 (W 109 rfl) (W 110 rfl) (fun hZ => (mvT hZ (W 112 rfl))) (W 111 rfl) (W 23 rfl) (W 113 rfl) (rm13_12 W S0.i P2 P1 P3 P0 P4 P5) P1 (by decide) (lenOf pd_4 rfl) rfl [] rfl 0 (own_le rfl) rfl 10 rfl fun T1 L1 v1 X1 q1 => ?_
  obtain ⟨nw1_1, kw1_1, rfl, N1q, K1q, KF1q, z1_nw1, R1_0, R1_1, R1_2⟩ := q1
  have S1 := S0.call X1 N1q K1q KF1q (allS (.inl (mI 0 rfl)) all0) (fallS (.inl (mI 0 rfl)) fall0) (allS P5 all0)
  refine gRv ?_
  refine gAs b S1 d12_10 rfl #[.val (.ref ra1), .val (.ref ra2), .val (.ref nw1_1), .val (.int (0 : Int32))] rfl 11 rfl ?_
  refine gAl b S1 d12_11 rfl rfl 12 rfl ?_
  refine gIl b S1 d12_12 rfl 13 rfl ?_
  refine gAl b S1 d12_13 rfl rfl 14 rfl ?_
  refine gAast b S1 d12_14 R1_1 R1_2 (Ins.of_exa (P6.keep K1q) (W 168 rfl)) (by decide) (by decide) 0 rfl (own_le rfl) (S0.ge z1_nw1) (.inr (S0.sz z1_nw1)) [(.ref ra2), .null, .null, .null, .null, .null, .null, .null, .null, .null] rfl 15 rfl fun T2 h2 W2 V2 S2 => ?_
  refine gAl b S2 d12_15 rfl rfl 16 rfl ?_
  refine gIl b S2 d12_16 rfl 17 rfl ?_
  refine gIc b S2 d12_17 1 rfl 18 rfl ?_
  refine gAdd b S2 d12_18 1 rfl 19 rfl ?_
  have x3 := (nL (tL P1.lt z1_nw1))
  have f4 := ((P2.kf K1q KF1q (nofB (sn4 W) nof0)).other W2 (Or.inl x3))
  refine gPf (host := "") b S2 .int d12_19 (.inl (W 102 rfl)) Via.refl f4 ((P1.keep K1q).wr W2) (.inl (W 103 rfl)) (W 22 rfl) pf2 rfl rfl P5 (.inl ⟨mI 0 rfl, mI 1 rfl⟩) 22 rfl fun T5 h5 W5 F5 S5 => ?_
  have f6 := ((R1_0.other W2 (Or.inl x3)).other W5 (.inr (sn40 W)))
  exact gRetV b S5 d12_22 (own_le rfl) (own_le rfl) ⟨nw1_1, kw1_1, rfl, S5.f, S5.k, S5.kf, (S0.sz z1_nw1), f6, F5, (V2.other W5 (nS x3)), R1_2⟩
def Q_rm11_17 (Z : State) (ra1 ra2 ra3 : Addr) (ca4 : ClassId) (h0 : Heap) (n0 : Nat) (v : Option Value) (h : Heap) (L : List Loc) : Prop := ∃ nw1 : Addr, ∃ kw1 : ClassId, v = some (.int (1 : Int32)) ∧ Fr n0 L ∧ Keep h0 h [ra1] ∧ KeepF h0 h [(ra1, some (sl23 Z)), (ra1, some (sl17 Z)), (ra1, some (sl16 Z))] ∧ h0.size ≤ nw1 ∧ Fld Z h ra1 ss5 ss6 "I" (.int (1 : Int32)) ∧ Fld Z h ra1 ss2 ss3 "I" (.int (1 : Int32)) ∧ Fld Z h ra1 ss2 ss12 ss7 (.ref nw1) ∧ Arv Z h nw1 kw1 (.object ss4) (10 : Int32) [(.ref ra2), .null, .null, .null, .null, .null, .null, .null, .null, .null] .null ∧ Ovr Z kw1 ss4
theorem rm11_17 (W : Wd a0 Z) (I0 : IO Z n0 h0) {ra1 ra2 ra3 : Addr} {ca4 : ClassId} (P0 : Fld Z h0 ra1 ss5 ss6 "I" (.int (0 : Int32))) (P1 : Exa Z h0 ra1 ss2) (P2 : n0 ≤ ra1) (P3 : Fld Z h0 ra1 ss2 ss12 ss7 (.ref ra3)) (P4 : Fld Z h0 ra1 ss2 ss3 "I" (.int (0 : Int32))) (P5 : Arv Z Z.heap ra3 ca4 (.object ss4) (0 : Int32) [] .null) (P6 : Sta Z Z.heap ss2 ss30 ss7 (.ref ra3)) (P7 : Exa Z h0 ra2 ss0) : OwnM l yy43 (.code yy43 k11_ 2 (some .boolean)) ⟨4, 1, 10, 56⟩ #[(.ref ra1), (.ref ra2)] Z h0 (Q_rm11_17 Z ra1 ra2 ra3 ca4 h0 n0) := by
  refine own_open [ra1] [(ra1, some (sl23 Z)), (ra1, some (sl17 Z)), (ra1, some (sl16 Z))] #[.val (.ref ra1), .val (.ref ra2)] (plainFor_of_name pn_3) I0 ?_
  intro p e s m below meth c T b S0
  refine gAl b S0 d11_0 rfl rfl 1 rfl ?_
  refine gDup b S0 d11_1 rfl 2 rfl ?_
  refine gGf (host := "") b S0 d11_2 (.inl (W 100 rfl)) (Via.of (W 101 rfl)) P0 5 rfl fun T1 S1 => ?_
  refine gIc b S1 d11_5 1 rfl 6 rfl ?_
  refine gAdd b S1 d11_6 1 rfl 7 rfl ?_
  refine gPf (host := "") b S1 .int d11_7 (.inl (W 100 rfl)) (Via.of (W 101 rfl)) P0 P1 (.inl (W 41 rfl)) (W 22 rfl) pf2 rfl rfl P2 (.inl ⟨mI 0 rfl, mI 0 rfl⟩) 10 rfl fun T2 h2 W2 F2 S2 => ?_
  refine gAl b S2 d11_10 rfl rfl 11 rfl ?_
  refine gAl b S2 d11_11 rfl rfl 12 rfl ?_
  refine gAl b S2 d11_12 rfl rfl 13 rfl ?_
  refine gGf (host := "") b S2 d11_13 (.inl (W 43 rfl)) Via.refl (P3.other W2 (.inr (sn0 W))) 16 rfl fun T3 S3 => ?_
  refine gAl b S3 d11_16 rfl rfl 17 rfl ?_
  refine gGf (host := "") b S3 d11_17 (.inl (W 102 rfl)) Via.refl (P4.other W2 (.inr (sn5 W))) 20 rfl fun T4 S4 => ?_
  refine cP b S4 d11_20 (W 104 rfl) (W 105 rfl) (fun hZ => (mvT hZ (W 107 rfl))) (W 106 rfl) (W 23 rfl) (W 108 rfl) (rm12_18 W S4.i P5 (P1.wr W2) (P4.other W2 (.inr (sn5 W))) (P3.other W2 (.inr (sn0 W))) P6 P2 (P7.wr W2)) (P1.wr W2) (by decide) (lenOf pd_5 rfl) rfl [] rfl 0 (own_le rfl) rfl 23 rfl fun T5 L5 v5 X5 q5 => ?_
  obtain ⟨nw1_5, kw1_5, rfl, N5q, K5q, KF5q, z5_nw1, R5_0, R5_1, R5_2, R5_3⟩ := q5
  have S5 := S4.call X5 N5q K5q KF5q (allS (.inl (mI 0 rfl)) all0) (fallS (.inl (mI 2 rfl)) (fallS (.inl (mI 1 rfl)) fall0)) (allS P2 all0)
  refine gRn ?_
  refine gIc b S5 d11_23 1 rfl 24 rfl ?_
  have f6 := (F2.kf K5q KF5q (nofB (sn1 W) (nofB (sn41 W) nof0)))
  exact gRetZ b S5 d11_24 (own_le rfl) (own_le rfl) ⟨nw1_5, kw1_5, rfl, S5.f, S5.k, S5.kf, (S4.sz z5_nw1), f6, R5_1, R5_0, R5_2, R5_3⟩
def Q_rm19_20 (Z : State) (ra1 : Addr) (h0 : Heap) (n0 : Nat) (v : Option Value) (h : Heap) (L : List Loc) : Prop := v = some (.int (1 : Int32)) ∧ Fr n0 L ∧ h = h0
theorem rm19_20 (W : Wd a0 Z) (I0 : IO Z n0 h0) {ra1 : Addr} (P0 : Fld Z h0 ra1 ss2 ss3 "I" (.int (0 : Int32))) : OwnM l yy49 (.code yy49 k19_ 1 (some .boolean)) ⟨0, 0, 0, 0⟩ #[(.ref ra1)] Z h0 (Q_rm19_20 Z ra1 h0 n0) := by
  refine own_open [] [] #[.val (.ref ra1)] (plainFor_of_name pn_3) I0 ?_
  intro p e s m below meth c T b S0
  refine gAl b S0 d19_0 rfl rfl 1 rfl ?_
  refine gGf (host := "") b S0 d19_1 (.inl (W 102 rfl)) Via.refl P0 4 rfl fun T1 S1 => ?_
  refine gIfN b S1 d19_4 rfl 7 rfl ?_
  refine gIc b S1 d19_7 1 rfl 8 rfl ?_
  refine gGoto b S1 d19_8 12 (by decide) rfl ?_
  exact gRetZ b S1 d19_12 (own_le rfl) (own_le rfl) ⟨rfl, S1.f, rfl⟩
def Q_rm10_22 (Z : State) (ra1 ra2 ra3 ra4 : Addr) (ca5 : ClassId) (h0 : Heap) (n0 : Nat) (v : Option Value) (h : Heap) (L : List Loc) : Prop := ∃ nw1 : Addr, ∃ kw1 : ClassId, v = some (.int (0 : Int32)) ∧ Fr n0 L ∧ Keep h0 h [ra3] ∧ KeepF h0 h [(ra3, some (sl16 Z)), (ra3, some (sl17 Z)), (ra3, some (sl23 Z))] ∧ h0.size ≤ nw1 ∧ Fld Z h ra3 ss2 ss12 ss7 (.ref nw1) ∧ Fld Z h ra3 ss2 ss3 "I" (.int (1 : Int32)) ∧ Fld Z h ra3 ss5 ss6 "I" (.int (1 : Int32)) ∧ Arv Z h nw1 kw1 (.object ss4) (10 : Int32) [(.ref ra2), .null, .null, .null, .null, .null, .null, .null, .null, .null] .null ∧ Ovr Z kw1 ss4
theorem rm10_22 (W : Wd a0 Z) (I0 : IO Z n0 h0) {ra1 ra2 ra3 ra4 : Addr} {ca5 : ClassId} (P0 : Fld Z h0 ra1 ss10 ss26 "I" (.int (0 : Int32))) (P1 : Fld Z h0 ra1 ss10 ss19 ss20 (.ref ra3)) (P2 : Exa Z h0 ra3 ss2) (P3 : Fld Z h0 ra3 ss5 ss6 "I" (.int (0 : Int32))) (P4 : n0 ≤ ra3) (P5 : Fld Z h0 ra3 ss2 ss12 ss7 (.ref ra4)) (P6 : Fld Z h0 ra3 ss2 ss3 "I" (.int (0 : Int32))) (P7 : Arv Z Z.heap ra4 ca5 (.object ss4) (0 : Int32) [] .null) (P8 : Sta Z Z.heap ss2 ss30 ss7 (.ref ra4)) (P9 : Exa Z h0 ra2 ss0) (P10 : ra1 ≠ ra3) : OwnM l yy34 (.code yy34 k10_ 3 (some .int)) ⟨5, 1, 10, 69⟩ #[(.ref ra1), (.ref ra2)] Z h0 (Q_rm10_22 Z ra1 ra2 ra3 ra4 ca5 h0 n0) := by
  refine own_open [ra3] [(ra3, some (sl16 Z)), (ra3, some (sl17 Z)), (ra3, some (sl23 Z))] #[.val (.ref ra1), .val (.ref ra2), .unset] (plainFor_of_name pn_4) I0 ?_
  intro p e s m below meth c T b S0
  refine gAl b S0 d10_0 rfl rfl 1 rfl ?_
  refine gGf (host := "") b S0 d10_1 (.inl (W 89 rfl)) Via.refl P0 4 rfl fun T1 S1 => ?_
  refine gIfN b S1 d10_4 rfl 7 rfl ?_
  refine gAl b S1 d10_7 rfl rfl 8 rfl ?_
  refine gGf (host := "") b S1 d10_8 (.inl (W 45 rfl)) Via.refl P1 11 rfl fun T2 S2 => ?_
  refine gAl b S2 d10_11 rfl rfl 12 rfl ?_
  refine cI (xi := yy58) b S2 d10_12 (W 91 rfl) (W 92 rfl) (fun hZ => mvT hZ (W 93 rfl)) (W 94 rfl) (W 95 rfl) (W 96 rfl) (W 97 rfl) (W 98 rfl) (W 23 rfl) (W 99 rfl) (rm11_17 W S2.i P3 P2 P4 P5 P6 P7 P8 P9) P2 (by decide) (lenOf pd_6 rfl) rfl [] rfl 0 (own_le rfl) rfl 17 rfl fun T3 L3 v3 X3 q3 => ?_
  obtain ⟨nw1_3, kw1_3, rfl, N3q, K3q, KF3q, z3_nw1, R3_0, R3_1, R3_2, R3_3, R3_4⟩ := q3
  have S3 := S2.call X3 N3q K3q KF3q (allS (.inl (mI 0 rfl)) all0) (fallS (.inl (mI 2 rfl)) (fallS (.inl (mI 1 rfl)) (fallS (.inl (mI 0 rfl)) fall0))) (allS P4 all0)
  refine gRv ?_
  refine gPop b S3 d10_17 rfl 18 rfl ?_
  refine gAl b S3 d10_18 rfl rfl 19 rfl ?_
  refine gGf (host := "") b S3 d10_19 (.inl (W 45 rfl)) Via.refl (P1.keep K3q (ninS P10 nin0)) 22 rfl fun T4 S4 => ?_
  refine cI (xi := yy62) b S4 d10_22 (W 126 rfl) (W 127 rfl) (fun hZ => mvT hZ (W 128 rfl)) (W 129 rfl) (W 130 rfl) (W 131 rfl) (W 132 rfl) (W 98 rfl) (W 23 rfl) (W 133 rfl) (rm16_15 W S4.i R3_1) (P2.keep K3q) (by decide) (lenOf pd_7 rfl) rfl [] rfl 0 (own_le rfl) rfl 27 rfl fun T5 L5 v5 X5 q5 => ?_
  obtain ⟨rfl, N5q, e5⟩ := q5
  have S5 := S4.same X5 N5q e5
  refine gRv ?_
  refine gIc b S5 d10_27 1 rfl 28 rfl ?_
  refine gSub b S5 d10_28 0 rfl 29 rfl ?_
  exact gRetI b S5 d10_29 (own_le rfl) (own_le rfl) ⟨nw1_3, kw1_3, rfl, S5.f, S5.k, S5.kf, (S2.sz z3_nw1), R3_2, R3_1, R3_0, R3_3, R3_4⟩
def Q_rm20_21 (Z : State) (ra1 ra2 ra3 ra4 ra5 ra6 : Addr) (ca7 : ClassId) (h0 : Heap) (n0 : Nat) (v : Option Value) (h : Heap) (L : List Loc) : Prop := ∃ nw1 : Addr, ∃ kw1 : ClassId, v = none ∧ Fr n0 L ∧ Keep h0 h [ra1, ra5, ra2] ∧ KeepF h0 h [(ra1, some (sl3 Z)), (ra5, some (sl23 Z)), (ra5, some (sl17 Z)), (ra5, some (sl16 Z)), (ra1, some (sl4 Z)), (ra1, some (sl2 Z)), (ra1, some (sl6 Z)), (ra1, some (sl1 Z)), (ra2, some (sl9 Z)), (ra2, some (sl12 Z))] ∧ h0.size ≤ nw1 ∧ Fld Z h ra1 ss0 ss15 ss16 (.ref ra3) ∧ Fld Z h ra5 ss5 ss6 "I" (.int (1 : Int32)) ∧ Fld Z h ra5 ss2 ss3 "I" (.int (1 : Int32)) ∧ Fld Z h ra5 ss2 ss12 ss7 (.ref nw1) ∧ Fld Z h ra1 ss0 ss17 "I" (.int (0 : Int32)) ∧ Fld Z h ra1 ss0 ss14 "I" (.int (0 : Int32)) ∧ Fld Z h ra1 ss0 ss9 "I" (.int (-1 : Int32)) ∧ Fld Z h ra1 ss0 ss11 "I" (.int (-1 : Int32)) ∧ Fld Z h ra2 ss1 ss13 "I" (.int (0 : Int32)) ∧ Fld Z h ra2 ss1 ss3 "I" (.int (1 : Int32)) ∧ Arv Z h nw1 kw1 (.object ss4) (10 : Int32) [(.ref ra1), .null, .null, .null, .null, .null, .null, .null, .null, .null] .null ∧ Ovr Z kw1 ss4
theorem rm20_21 (W : Wd a0 Z) (I0 : IO Z n0 h0) {ra1 ra2 ra3 ra4 ra5 ra6 : Addr} {ca7 : ClassId} (P0 : Fld Z h0 ra2 ss1 ss15 ss16 (.ref ra3)) (P1 : Fld Z h0 ra1 ss0 ss17 "I" (.int (-1 : Int32))) (P2 : Exa Z h0 ra1 ss0) (P3 : Fld Z h0 ra1 ss0 ss15 ss16 .null) (P4 : n0 ≤ ra1) (P5 : Fld Z h0 ra3 ss8 ss31 ss18 (.ref ra4)) (P6 : ra3 ≠ ra1) (P7 : Exa Z h0 ra4 ss10) (P8 : Fld Z h0 ra4 ss10 ss26 "I" (.int (0 : Int32))) (P9 : Fld Z h0 ra4 ss10 ss19 ss20 (.ref ra5)) (P10 : Exa Z h0 ra5 ss2) (P11 : Fld Z h0 ra5 ss5 ss6 "I" (.int (0 : Int32))) (P12 : n0 ≤ ra5) (P13 : Fld Z h0 ra5 ss2 ss12 ss7 (.ref ra6)) (P14 : Fld Z h0 ra5 ss2 ss3 "I" (.int (0 : Int32))) (P15 : Arv Z Z.heap ra6 ca7 (.object ss4) (0 : Int32) [] .null) (P16 : Sta Z Z.heap ss2 ss30 ss7 (.ref ra6)) (P17 : ra4 ≠ ra5) (P18 : ra4 ≠ ra1) (P19 : ra5 ≠ ra1) (P20 : Fld Z h0 ra2 ss1 ss17 "I" (.int (0 : Int32))) (P21 : Exa Z h0 ra2 ss1) (P22 : ra2 ≠ ra1) (P23 : ra2 ≠ ra5) (P24 : Fld Z h0 ra1 ss0 ss14 "I" (.int (-1 : Int32))) (P25 : Fld Z h0 ra1 ss0 ss9 "I" (.int (-1 : Int32))) (P26 : Fld Z h0 ra2 ss1 ss13 "I" (.int (-1 : Int32))) (P27 : Fld Z h0 ra1 ss0 ss11 "I" (.int (-1 : Int32))) (P28 : n0 ≤ ra2) (P29 : Fld Z h0 ra2 ss1 ss3 "I" (.int (0 : Int32))) : OwnM l yy21 (.code yy21 k20_ 3 none) ⟨6, 1, 10, 84⟩ #[(.ref ra1), (.ref ra2)] Z h0 (Q_rm20_21 Z ra1 ra2 ra3 ra4 ra5 ra6 ca7 h0 n0) := by
  refine own_open [ra1, ra5, ra2] [(ra1, some (sl3 Z)), (ra5, some (sl23 Z)), (ra5, some (sl17 Z)), (ra5, some (sl16 Z)), (ra1, some (sl4 Z)), (ra1, some (sl2 Z)), (ra1, some (sl6 Z)), (ra1, some (sl1 Z)), (ra2, some (sl9 Z)), (ra2, some (sl12 Z))] #[.val (.ref ra1), .val (.ref ra2), .unset] (plainFor_of_name pn_5) I0 ?_
  intro p e s m below meth c T b S0
  refine gAl b S0 d20_0 rfl rfl 1 rfl ?_
  refine gGfR b S0 d20_1 (W 186 rfl) Via.refl P0 4 rfl fun T1 S1 => ?_
  refine gAs b S1 d20_4 rfl #[.val (.ref ra1), .val (.ref ra2), .val (.ref ra3)] rfl 5 rfl ?_
  refine gAl b S1 d20_5 rfl rfl 6 rfl ?_
  refine gGfR b S1 d20_6 (W 187 rfl) Via.refl P1 9 rfl fun T2 S2 => ?_
  refine gIc b S2 d20_9 (-1) rfl 10 rfl ?_
  refine gIcN b S2 d20_10 rfl 13 rfl ?_
  refine gAl b S2 d20_13 rfl rfl 14 rfl ?_
  refine gAl b S2 d20_14 rfl rfl 15 rfl ?_
  refine gPfR b S2 (.object ss8) d20_15 (W 188 rfl) Via.refl P3 P2 (W 189 rfl) (W 139 rfl) pf5 rfl rfl P4 (.inl ⟨mI 0 rfl, mI 0 rfl⟩) 18 rfl fun T3 h3 W3 F3 S3 => ?_
  refine gAl b S3 d20_18 rfl rfl 19 rfl ?_
  refine gAl b S3 d20_19 rfl rfl 20 rfl ?_
  refine gGf (host := "") b S3 d20_20 (.inl (W 50 rfl)) Via.refl (P5.other W3 (Or.inl P6)) 23 rfl fun T4 S4 => ?_
  refine gAl b S4 d20_23 rfl rfl 24 rfl ?_
  refine cV b S4 d20_24 (W 84 rfl) (W 85 rfl) (W 87 rfl) (W 86 rfl) (W 16 rfl) (W 88 rfl) (rm10_22 W S4.i (P8.other W3 (Or.inl P18)) (P9.other W3 (Or.inl P18)) (P10.wr W3) (P11.other W3 (Or.inl P19)) P12 (P13.other W3 (Or.inl P19)) (P14.other W3 (Or.inl P19)) P15 P16 (P2.wr W3) P17) (P7.wr W3) (by decide) (lenOf pd_8 rfl) rfl [(.ref ra1)] rfl 1 (own_le rfl) rfl 27 rfl fun T5 L5 v5 X5 q5 => ?_
  obtain ⟨nw1_5, kw1_5, rfl, N5q, K5q, KF5q, z5_nw1, R5_0, R5_1, R5_2, R5_3, R5_4⟩ := q5
  have S5 := S4.call X5 N5q K5q KF5q (allS (.inl (mI 1 rfl)) all0) (fallS (.inl (mI 3 rfl)) (fallS (.inl (mI 2 rfl)) (fallS (.inl (mI 1 rfl)) fall0))) (allS P12 all0)
  refine gRv ?_
  have f6 := ((P1.other W3 (.inr (sn92 W))).keep K5q (ninS (nS P19) nin0))
  refine gPfR b S5 .int d20_27 (W 187 rfl) Via.refl f6 ((P2.wr W3).keep K5q) (W 154 rfl) (W 139 rfl) pf2 rfl rfl P4 (.inl ⟨mI 0 rfl, mI 4 rfl⟩) 30 rfl fun T7 h7 W7 F7 S7 => ?_
  refine gAl b S7 d20_30 rfl rfl 31 rfl ?_
  refine gAl b S7 d20_31 rfl rfl 32 rfl ?_
  have f8 := (((P20.other W3 (Or.inl P22)).keep K5q (ninS P23 nin0)).other W7 (Or.inl P22))
  refine gGfR b S7 d20_32 (W 134 rfl) Via.refl f8 35 rfl fun T9 S9 => ?_
  have f10 := (((P24.other W3 (.inr (sn93 W))).keep K5q (ninS (nS P19) nin0)).other W7 (.inr (sn72 W)))
  refine gPfR b S9 .int d20_35 (W 190 rfl) Via.refl f10 (((P2.wr W3).keep K5q).wr W7) (W 156 rfl) (W 139 rfl) pf2 rfl rfl P4 (.inl ⟨mI 0 rfl, mI 5 rfl⟩) 38 rfl fun T11 h11 W11 F11 S11 => ?_
  refine gAl b S11 d20_38 rfl rfl 39 rfl ?_
  refine gIc b S11 d20_39 (-1) rfl 40 rfl ?_
  have f12 := ((((P25.other W3 (.inr (sn94 W))).keep K5q (ninS (nS P19) nin0)).other W7 (.inr (sn73 W))).other W11 (.inr (sn74 W)))
  have f13 := ((((P2.wr W3).keep K5q).wr W7).wr W11)
  refine gPfR b S11 .int d20_40 (W 191 rfl) Via.refl f12 f13 (W 158 rfl) (W 139 rfl) pf2 rfl rfl P4 (.inl ⟨mI 0 rfl, mI 6 rfl⟩) 43 rfl fun T14 h14 W14 F14 S14 => ?_
  refine gAl b S14 d20_43 rfl rfl 44 rfl ?_
  refine gAl b S14 d20_44 rfl rfl 45 rfl ?_
  have f15 := (((((P26.other W3 (Or.inl P22)).keep K5q (ninS P23 nin0)).other W7 (Or.inl P22)).other W11 (Or.inl P22)).other W14 (Or.inl P22))
  refine gGfR b S14 d20_45 (W 192 rfl) Via.refl f15 48 rfl fun T16 S16 => ?_
  have f17 := (((((P27.other W3 (.inr (sn95 W))).keep K5q (ninS (nS P19) nin0)).other W7 (.inr (sn75 W))).other W11 (.inr (sn76 W))).other W14 (.inr (sn77 W)))
  refine gPfR b S16 .int d20_48 (W 193 rfl) Via.refl f17 (f13.wr W14) (W 160 rfl) (W 139 rfl) pf2 rfl rfl P4 (.inl ⟨mI 0 rfl, mI 7 rfl⟩) 51 rfl fun T18 h18 W18 F18 S18 => ?_
  refine gAl b S18 d20_51 rfl rfl 52 rfl ?_
  refine gGfR b S18 d20_52 (W 192 rfl) Via.refl (f15.other W18 (Or.inl P22)) 55 rfl fun T19 S19 => ?_
  refine gIc b S19 d20_55 (-1) rfl 56 rfl ?_
  refine gIcY b S19 d20_56 rfl 80 (by decide) rfl ?_
  refine gAl b S19 d20_80 rfl rfl 81 rfl ?_
  refine gAl b S19 d20_81 rfl rfl 82 rfl ?_
  have f20 := (((F7.other W11 (.inr (sn82 W))).other W14 (.inr (sn83 W))).other W18 (.inr (sn84 W)))
  refine gGfR b S19 d20_82 (W 187 rfl) Via.refl f20 85 rfl fun T21 S21 => ?_
  have f22 := ((((((P21.wr W3).keep K5q).wr W7).wr W11).wr W14).wr W18)
  refine gPfR b S21 .int d20_85 (W 192 rfl) Via.refl (f15.other W18 (Or.inl P22)) f22 (W 75 rfl) (W 68 rfl) pf2 rfl rfl P28 (.inl ⟨mI 2 rfl, mI 8 rfl⟩) 88 rfl fun T23 h23 W23 F23 S23 => ?_
  refine gAl b S23 d20_88 rfl rfl 89 rfl ?_
  refine gDup b S23 d20_89 rfl 90 rfl ?_
  have f24 := (((((((P29.other W3 (Or.inl P22)).keep K5q (ninS P23 nin0)).other W7 (Or.inl P22)).other W11 (Or.inl P22)).other W14 (Or.inl P22)).other W18 (Or.inl P22)).other W23 (.inr (sn51 W)))
  refine gGfR b S23 d20_90 (W 194 rfl) Via.refl f24 93 rfl fun T25 S25 => ?_
  refine gIc b S25 d20_93 1 rfl 94 rfl ?_
  refine gAdd b S25 d20_94 1 rfl 95 rfl ?_
  refine gPfR b S25 .int d20_95 (W 194 rfl) Via.refl f24 (f22.wr W23) (W 195 rfl) (W 68 rfl) pf2 rfl rfl P28 (.inl ⟨mI 2 rfl, mI 9 rfl⟩) 98 rfl fun T26 h26 W26 F26 S26 => ?_
  have f27 := (((((((F3.keep K5q (ninS (nS P19) nin0)).other W7 (.inr (sn96 W))).other W11 (.inr (sn97 W))).other W14 (.inr (sn98 W))).other W18 (.inr (sn99 W))).other W23 (Or.inl (nS P22))).other W26 (Or.inl (nS P22)))
  have f28 := ((((((R5_2.other W7 (Or.inl P19)).other W11 (Or.inl P19)).other W14 (Or.inl P19)).other W18 (Or.inl P19)).other W23 (Or.inl (nS P23))).other W26 (Or.inl (nS P23)))
  have f29 := ((((((R5_1.other W7 (Or.inl P19)).other W11 (Or.inl P19)).other W14 (Or.inl P19)).other W18 (Or.inl P19)).other W23 (Or.inl (nS P23))).other W26 (Or.inl (nS P23)))
  have f30 := ((((((R5_0.other W7 (Or.inl P19)).other W11 (Or.inl P19)).other W14 (Or.inl P19)).other W18 (Or.inl P19)).other W23 (Or.inl (nS P23))).other W26 (Or.inl (nS P23)))
  have f31 := ((f20.other W23 (Or.inl (nS P22))).other W26 (Or.inl (nS P22)))
  have f32 := ((((F11.other W14 (.inr (sn86 W))).other W18 (.inr (sn87 W))).other W23 (Or.inl (nS P22))).other W26 (Or.inl (nS P22)))
  have f33 := (((F14.other W18 (.inr (sn89 W))).other W23 (Or.inl (nS P22))).other W26 (Or.inl (nS P22)))
  have f34 := ((F18.other W23 (Or.inl (nS P22))).other W26 (Or.inl (nS P22)))
  have f35 := (F23.other W26 (.inr (sn100 W)))
  have x36 := (nS (nL (tL (tL P1.lt (Keep.of_wr W3).1) z5_nw1)))
  have x37 := (nS (nL (tL (tL P0.lt (Keep.of_wr W3).1) z5_nw1)))
  have f38 := ((((((R5_3.other W7 x36).other W11 x36).other W14 x36).other W18 x36).other W23 x37).other W26 x37)
  exact gRetV b S26 d20_98 (own_le rfl) (own_le rfl) ⟨nw1_5, kw1_5, rfl, S26.f, S26.k, S26.kf, (S4.sz z5_nw1), f27, f28, f29, f30, f31, f32, f33, f34, f35, F26, f38, R5_4⟩
def Q_rm21_23 (Z : State) (ra1 : Addr) (h0 : Heap) (n0 : Nat) (v : Option Value) (h : Heap) (L : List Loc) : Prop := v = some (.ref ra1) ∧ Fr n0 L ∧ h = h0
theorem rm21_23 (W : Wd a0 Z) (I0 : IO Z n0 h0) {ra1 : Addr} (P0 : Sta Z Z.heap ss29 "APPLIED" ss36 (.ref ra1)) : OwnM l yy0 (.code yy0 k21_ 0 (some (.object ss29))) ⟨0, 0, 0, 0⟩ #[] Z h0 (Q_rm21_23 Z ra1 h0 n0) := by
  refine own_open [] [] #[] (plainFor_of_name pn_9) I0 ?_
  intro p e s m below meth c T b S0
  refine gGs b S0 d21_0 (W 200 rfl) P0 3 rfl fun T1 S1 => ?_
  exact gRetA b S1 d21_3 rfl rfl rfl (own_le rfl) (own_le rfl) ⟨rfl, S1.f, rfl⟩
def Q_rm18_19 (Z : State) (ra1 ra2 ra3 ra4 ra5 ra6 ra7 ra9 : Addr) (ca8 : ClassId) (h0 : Heap) (n0 : Nat) (v : Option Value) (h : Heap) (L : List Loc) : Prop := ∃ nw1 : Addr, ∃ kw1 : ClassId, v = some (.ref ra9) ∧ Fr n0 L ∧ Keep h0 h [ra4, ra6, ra2] ∧ KeepF h0 h [(ra4, some (sl12 Z)), (ra4, some (sl9 Z)), (ra2, some (sl1 Z)), (ra2, some (sl6 Z)), (ra2, some (sl2 Z)), (ra2, some (sl4 Z)), (ra6, some (sl16 Z)), (ra6, some (sl17 Z)), (ra6, some (sl23 Z)), (ra2, some (sl3 Z))] ∧ h0.size ≤ nw1 ∧ Fld Z h ra4 ss1 ss3 "I" (.int (1 : Int32)) ∧ Fld Z h ra4 ss1 ss13 "I" (.int (0 : Int32)) ∧ Fld Z h ra2 ss0 ss11 "I" (.int (-1 : Int32)) ∧ Fld Z h ra2 ss0 ss9 "I" (.int (-1 : Int32)) ∧ Fld Z h ra2 ss0 ss14 "I" (.int (0 : Int32)) ∧ Fld Z h ra2 ss0 ss17 "I" (.int (0 : Int32)) ∧ Fld Z h ra6 ss2 ss12 ss7 (.ref nw1) ∧ Fld Z h ra6 ss2 ss3 "I" (.int (1 : Int32)) ∧ Fld Z h ra6 ss5 ss6 "I" (.int (1 : Int32)) ∧ Fld Z h ra2 ss0 ss15 ss16 (.ref ra1) ∧ Arv Z h nw1 kw1 (.object ss4) (10 : Int32) [(.ref ra2), .null, .null, .null, .null, .null, .null, .null, .null, .null] .null ∧ Ovr Z kw1 ss4
theorem rm18_19 (W : Wd a0 Z) (I0 : IO Z n0 h0) {ra1 ra2 ra3 ra4 ra5 ra6 ra7 ra9 : Addr} {ca8 : ClassId} (P0 : Exa Z h0 ra3 ss2) (P1 : Fld Z h0 ra3 ss2 ss3 "I" (.int (0 : Int32))) (P2 : Fld Z h0 ra1 ss28 ss34 ss35 (.ref ra4)) (P3 : Fld Z h0 ra4 ss1 ss15 ss16 (.ref ra1)) (P4 : Fld Z h0 ra2 ss0 ss17 "I" (.int (-1 : Int32))) (P5 : Exa Z h0 ra2 ss0) (P6 : Fld Z h0 ra2 ss0 ss15 ss16 .null) (P7 : n0 ≤ ra2) (P8 : Fld Z h0 ra1 ss8 ss31 ss18 (.ref ra5)) (P9 : ra1 ≠ ra2) (P10 : Exa Z h0 ra5 ss10) (P11 : Fld Z h0 ra5 ss10 ss26 "I" (.int (0 : Int32))) (P12 : Fld Z h0 ra5 ss10 ss19 ss20 (.ref ra6)) (P13 : Exa Z h0 ra6 ss2) (P14 : Fld Z h0 ra6 ss5 ss6 "I" (.int (0 : Int32))) (P15 : n0 ≤ ra6) (P16 : Fld Z h0 ra6 ss2 ss12 ss7 (.ref ra7)) (P17 : Fld Z h0 ra6 ss2 ss3 "I" (.int (0 : Int32))) (P18 : Arv Z Z.heap ra7 ca8 (.object ss4) (0 : Int32) [] .null) (P19 : Sta Z Z.heap ss2 ss30 ss7 (.ref ra7)) (P20 : ra5 ≠ ra6) (P21 : ra5 ≠ ra2) (P22 : ra6 ≠ ra2) (P23 : Fld Z h0 ra4 ss1 ss17 "I" (.int (0 : Int32))) (P24 : Exa Z h0 ra4 ss1) (P25 : ra4 ≠ ra2) (P26 : ra4 ≠ ra6) (P27 : Fld Z h0 ra2 ss0 ss14 "I" (.int (-1 : Int32))) (P28 : Fld Z h0 ra2 ss0 ss9 "I" (.int (-1 : Int32))) (P29 : Fld Z h0 ra4 ss1 ss13 "I" (.int (-1 : Int32))) (P30 : Fld Z h0 ra2 ss0 ss11 "I" (.int (-1 : Int32))) (P31 : n0 ≤ ra4) (P32 : Fld Z h0 ra4 ss1 ss3 "I" (.int (0 : Int32))) (P33 : Sta Z Z.heap ss29 "APPLIED" ss36 (.ref ra9)) : OwnM l yy3 (Jvm.Cond.codeWith yy3 k18_ 8 (some (.object ss29)) [((26 : Nat), (98 : Nat), (105 : Nat), (0 : Nat)), ((105 : Nat), (107 : Nat), (105 : Nat), (0 : Nat))]) ⟨7, 1, 10, 98⟩ #[(.ref ra1), (.ref ra2), (.ref ra3)] Z h0 (Q_rm18_19 Z ra1 ra2 ra3 ra4 ra5 ra6 ra7 ra9 ca8 h0 n0) := by
  refine own_openW [ra4, ra6, ra2] [(ra4, some (sl12 Z)), (ra4, some (sl9 Z)), (ra2, some (sl1 Z)), (ra2, some (sl6 Z)), (ra2, some (sl2 Z)), (ra2, some (sl4 Z)), (ra6, some (sl16 Z)), (ra6, some (sl17 Z)), (ra6, some (sl23 Z)), (ra2, some (sl3 Z))] #[.val (.ref ra1), .val (.ref ra2), .val (.ref ra3), .unset, .unset, .unset, .unset, .unset] (plainFor_of_name pn_7) I0 ?_
  intro p e s m below meth c T b S0
  refine gAl b S0 d18_0 rfl rfl 1 rfl ?_
  refine cI (xi := yy60) b S0 d18_1 (W 174 rfl) (W 175 rfl) (fun hZ => mvT hZ (W 176 rfl)) (W 177 rfl) (W 178 rfl) (W 179 rfl) (W 180 rfl) (W 98 rfl) (W 23 rfl) (W 181 rfl) (rm19_20 W S0.i P1) P0 (by decide) (lenOf pd_11 rfl) rfl [] rfl 0 (own_le rfl) rfl 6 rfl fun T1 L1 v1 X1 q1 => ?_
  obtain ⟨rfl, N1q, e1⟩ := q1
  have S1 := S0.same X1 N1q e1
  refine gRv ?_
  refine gIfN b S1 d18_6 rfl 9 rfl ?_
  refine gAl b S1 d18_9 rfl rfl 10 rfl ?_
  refine gAl b S1 d18_10 rfl rfl 11 rfl ?_
  refine gGf (host := "") b S1 d18_11 (.inl (W 136 rfl)) Via.refl P2 14 rfl fun T2 S2 => ?_
  refine cSU (owner := ss8) b S2 d18_14 (W 182 rfl) (W 183 rfl) (W 184 rfl) (W 9 rfl) (W 185 rfl) (rm20_21 W S2.i P3 P4 P5 P6 P7 P8 P9 P10 P11 P12 P13 P14 P15 P16 P17 P18 P19 P20 P21 P22 P23 P24 P25 P26 P27 P28 P29 P30 P31 P32) (by decide) (lenOf pd_12 rfl) rfl [] rfl 0 (own_le rfl) rfl 17 rfl fun T3 L3 v3 X3 q3 => ?_
  obtain ⟨nw1_3, kw1_3, rfl, N3q, K3q, KF3q, z3_nw1, R3_0, R3_1, R3_2, R3_3, R3_4, R3_5, R3_6, R3_7, R3_8, R3_9, R3_10, R3_11⟩ := q3
  have S3 := S2.call X3 N3q K3q KF3q (allS (.inl (mI 2 rfl)) (allS (.inl (mI 1 rfl)) (allS (.inl (mI 0 rfl)) all0))) (fallS (.inl (mI 9 rfl)) (fallS (.inl (mI 8 rfl)) (fallS (.inl (mI 7 rfl)) (fallS (.inl (mI 6 rfl)) (fallS (.inl (mI 5 rfl)) (fallS (.inl (mI 4 rfl)) (fallS (.inl (mI 3 rfl)) (fallS (.inl (mI 2 rfl)) (fallS (.inl (mI 1 rfl)) (fallS (.inl (mI 0 rfl)) fall0)))))))))) (allS P7 (allS P15 (allS P31 all0)))
  refine gRn ?_
  refine cS b S3 d18_17 (W 196 rfl) (W 197 rfl) (W 198 rfl) (W 199 rfl) (rm21_23 W S3.i P33) (by decide) (lenOf pd_13 rfl) rfl [] rfl 0 (own_le rfl) rfl 20 rfl fun T4 L4 v4 X4 q4 => ?_
  obtain ⟨rfl, N4q, e4⟩ := q4
  have S4 := S3.same X4 N4q e4
  refine gRv ?_
  exact gRetA b S4 d18_20 rfl rfl rfl (own_le rfl) (own_le rfl) ⟨nw1_3, kw1_3, rfl, S4.f, S4.k, S4.kf, (S2.sz z3_nw1), R3_9, R3_8, R3_7, R3_6, R3_5, R3_4, R3_3, R3_2, R3_1, R3_0, R3_10, R3_11⟩
def Q_rm19_25 (Z : State) (ra1 : Addr) (h0 : Heap) (n0 : Nat) (v : Option Value) (h : Heap) (L : List Loc) : Prop := v = some (.int (0 : Int32)) ∧ Fr n0 L ∧ h = h0
theorem rm19_25 (W : Wd a0 Z) (I0 : IO Z n0 h0) {ra1 : Addr} (P0 : Fld Z h0 ra1 ss2 ss3 "I" (.int (1 : Int32))) : OwnM l yy49 (.code yy49 k19_ 1 (some .boolean)) ⟨0, 0, 0, 0⟩ #[(.ref ra1)] Z h0 (Q_rm19_25 Z ra1 h0 n0) := by
  refine own_open [] [] #[.val (.ref ra1)] (plainFor_of_name pn_3) I0 ?_
  intro p e s m below meth c T b S0
  refine gAl b S0 d19_0 rfl rfl 1 rfl ?_
  refine gGf (host := "") b S0 d19_1 (.inl (W 102 rfl)) Via.refl P0 4 rfl fun T1 S1 => ?_
  refine gIfY b S1 d19_4 rfl 11 (by decide) rfl ?_
  refine gIc b S1 d19_11 0 rfl 12 rfl ?_
  exact gRetZ b S1 d19_12 (own_le rfl) (own_le rfl) ⟨rfl, S1.f, rfl⟩
def Q_rm24_28 (Z : State) (ra1 ra2 : Addr) (h0 : Heap) (n0 : Nat) (v : Option Value) (h : Heap) (L : List Loc) : Prop := v = none ∧ Fr n0 L ∧ Keep h0 h [ra1] ∧ KeepF h0 h [(ra1, some (sl20 Z)), (ra1, some (sl19 Z)), (ra1, some (sl21 Z))] ∧ Fld Z h ra1 ss23 "this$0" ss37 (.ref ra2) ∧ Fld Z h ra1 ss23 "lastRet" "I" (.int (-1 : Int32)) ∧ Fld Z h ra1 ss23 ss39 "I" (.int (1 : Int32))
theorem rm24_28 (W : Wd a0 Z) (I0 : IO Z n0 h0) {ra1 ra2 : Addr} (P0 : Exa Z h0 ra1 ss23) (P1 : Fld Z h0 ra1 ss23 "this$0" ss37 .null) (P2 : n0 ≤ ra1) (P3 : Fld Z h0 ra1 ss23 "lastRet" "I" (.int (0 : Int32))) (P4 : Fld Z h0 ra2 ss5 ss6 "I" (.int (1 : Int32))) (P5 : ra2 ≠ ra1) (P6 : Fld Z h0 ra1 ss23 ss39 "I" (.int (0 : Int32))) : OwnM l yy52 (.code yy52 k24_ 2 none) ⟨1, 0, 0, 12⟩ #[(.ref ra1), (.ref ra2)] Z h0 (Q_rm24_28 Z ra1 ra2 h0 n0) := by
  refine own_open [ra1] [(ra1, some (sl20 Z)), (ra1, some (sl19 Z)), (ra1, some (sl21 Z))] #[.val (.ref ra1), .val (.ref ra2)] (plainFor_of_name pn_10) I0 ?_
  intro p e s m below meth c T b S0
  refine gAl b S0 d24_0 rfl rfl 1 rfl ?_
  refine gAl b S0 d24_1 rfl rfl 2 rfl ?_
  refine gPf (host := "") b S0 (.object ss2) d24_2 (.inl (W 223 rfl)) Via.refl P1 P0 (.inr ⟨(W 224 rfl), rfl, b.2.2.2.2.2.2.1⟩) (W 217 rfl) pf9 rfl rfl P2 (.inl ⟨mI 0 rfl, mI 0 rfl⟩) 5 rfl fun T1 h1 W1 F1 S1 => ?_
  refine gAl b S1 d24_5 rfl rfl 6 rfl ?_
  refine gIni b S1 d24_6 (W 225 rfl) (W 12 rfl) (W 13 rfl) rfl (own_le rfl) 0 (own_le rfl) (own_le rfl) 9 rfl fun T2 S2 => ?_
  refine gAl b S2 d24_9 rfl rfl 10 rfl ?_
  refine gIc b S2 d24_10 (-1) rfl 11 rfl ?_
  refine gPf (host := "") b S2 .int d24_11 (.inl (W 226 rfl)) Via.refl (P3.other W1 (.inr (sn102 W))) (P0.wr W1) (.inl (W 227 rfl)) (W 217 rfl) pf2 rfl rfl P2 (.inl ⟨mI 0 rfl, mI 1 rfl⟩) 14 rfl fun T3 h3 W3 F3 S3 => ?_
  refine gAl b S3 d24_14 rfl rfl 15 rfl ?_
  refine gAl b S3 d24_15 rfl rfl 16 rfl ?_
  refine gGf (host := "") b S3 d24_16 (.inl (W 223 rfl)) Via.refl (F1.other W3 (.inr (sn103 W))) 19 rfl fun T4 S4 => ?_
  have f5 := ((P4.other W1 (Or.inl P5)).other W3 (Or.inl P5))
  refine gGf (host := "") b S4 d24_19 (.inl (W 228 rfl)) (Via.of (W 101 rfl)) f5 22 rfl fun T6 S6 => ?_
  have f7 := ((P6.other W1 (.inr (sn104 W))).other W3 (.inr (sn105 W)))
  refine gPf (host := "") b S6 .int d24_22 (.inl (W 229 rfl)) Via.refl f7 ((P0.wr W1).wr W3) (.inl (W 230 rfl)) (W 217 rfl) pf2 rfl rfl P2 (.inl ⟨mI 0 rfl, mI 2 rfl⟩) 25 rfl fun T8 h8 W8 F8 S8 => ?_
  have f9 := ((F1.other W3 (.inr (sn103 W))).other W8 (.inr (sn106 W)))
  exact gRetV b S8 d24_25 (own_le rfl) (own_le rfl) ⟨rfl, S8.f, S8.k, S8.kf, f9, (F3.other W8 (.inr (sn107 W))), F8⟩
def Q_rm23_27 (Z : State) (ra1 : Addr) (h0 : Heap) (n0 : Nat) (v : Option Value) (h : Heap) (L : List Loc) : Prop := ∃ nw1 : Addr, v = some (.ref nw1) ∧ Fr n0 L ∧ Keep h0 h [] ∧ KeepF h0 h [] ∧ h0.size ≤ nw1 ∧ Exa Z h nw1 ss23 ∧ Fld Z h nw1 ss23 "cursor" "I" (.int (0 : Int32)) ∧ Fld Z h nw1 ss23 "this$0" ss37 (.ref ra1) ∧ Fld Z h nw1 ss23 "lastRet" "I" (.int (-1 : Int32)) ∧ Fld Z h nw1 ss23 ss39 "I" (.int (1 : Int32))
theorem rm23_27 (W : Wd a0 Z) (I0 : IO Z n0 h0) {ra1 : Addr} (P0 : Fld Z h0 ra1 ss5 ss6 "I" (.int (1 : Int32))) : OwnM l yy50 (.code yy50 k23_ 1 (some (.object "java/util/Iterator"))) ⟨2, 1, 4, 26⟩ #[(.ref ra1)] Z h0 (Q_rm23_27 Z ra1 h0 n0) := by
  refine own_open [] [] #[.val (.ref ra1)] (plainFor_of_name pn_3) I0 ?_
  intro p e s m below meth c T b S0
  refine gNew b S0 d23_0 (W 216 rfl) (W 217 rfl) (W 218 rfl) (own_le rfl) (own_le rfl) 3 rfl fun T1 h1 b1 g1 E1 A1 D1 S1 => ?_
  refine gDup b S1 d23_3 rfl 4 rfl ?_
  refine gAl b S1 d23_4 rfl rfl 5 rfl ?_
  have x2 := (nL (tL P0.lt g1))
  refine cN b S1 d23_5 (W 219 rfl) (W 220 rfl) (W 218 rfl) (W 222 rfl) (rm24_28 W S1.i A1 (own_dN @D1 (.inr (W 224 rfl)) pf9) (S0.ge g1) (own_dI @D1 (.inl (W 227 rfl)) pf2) (P0.ext E1) x2 (own_dI @D1 (.inl (W 230 rfl)) pf2)) rfl (by decide) (lenOf pd_15 rfl) rfl [(.ref b1)] rfl 1 (own_le rfl) rfl 8 rfl fun T3 L3 v3 X3 q3 => ?_
  obtain ⟨rfl, N3q, K3q, KF3q, R3_0, R3_1, R3_2⟩ := q3
  have S3 := S1.call X3 N3q K3q KF3q (allS (.inr (S0.sz g1)) all0) (fallS (.inr (.inr (S0.sz g1))) (fallS (.inr (.inr (S0.sz g1))) (fallS (.inr (.inr (S0.sz g1))) fall0))) (allS (S0.ge g1) all0)
  refine gRn ?_
  have f4 := ((own_dI @D1 (.inl (W 241 rfl)) pf2).kf K3q KF3q (nofB (sn110 W) (nofB (sn109 W) (nofB (sn108 W) nof0))))
  exact gRetA b S3 d23_8 rfl rfl rfl (own_le rfl) (own_le rfl) ⟨b1, rfl, S3.f, S3.k, S3.kf, (S0.sz g1), (A1.keep K3q), f4, R3_0, R3_1, R3_2⟩
def Q_rm25_29 (Z : State) (ra1 ra2 : Addr) (h0 : Heap) (n0 : Nat) (v : Option Value) (h : Heap) (L : List Loc) : Prop := v = some (.int (1 : Int32)) ∧ Fr n0 L ∧ h = h0
theorem rm25_29 (W : Wd a0 Z) (I0 : IO Z n0 h0) {ra1 ra2 : Addr} (P0 : Fld Z h0 ra1 ss23 "cursor" "I" (.int (0 : Int32))) (P1 : Fld Z h0 ra1 ss23 "this$0" ss37 (.ref ra2)) (P2 : Fld Z h0 ra2 ss2 ss3 "I" (.int (1 : Int32))) : OwnM l yy54 (.code yy54 k25_ 1 (some .boolean)) ⟨0, 0, 0, 0⟩ #[(.ref ra1)] Z h0 (Q_rm25_29 Z ra1 ra2 h0 n0) := by
  refine own_open [] [] #[.val (.ref ra1)] (plainFor_of_name pn_10) I0 ?_
  intro p e s m below meth c T b S0
  refine gAl b S0 d25_0 rfl rfl 1 rfl ?_
  refine gGf (host := "") b S0 d25_1 (.inl (W 240 rfl)) Via.refl P0 4 rfl fun T1 S1 => ?_
  refine gAl b S1 d25_4 rfl rfl 5 rfl ?_
  refine gGf (host := "") b S1 d25_5 (.inl (W 223 rfl)) Via.refl P1 8 rfl fun T2 S2 => ?_
  refine gGf b S2 d25_8 (.inr (W 242 rfl)) Via.refl P2 11 rfl fun T3 S3 => ?_
  refine gIcN b S3 d25_11 rfl 14 rfl ?_
  refine gIc b S3 d25_14 1 rfl 15 rfl ?_
  refine gGoto b S3 d25_15 19 (by decide) rfl ?_
  exact gRetZ b S3 d25_19 (own_le rfl) (own_le rfl) ⟨rfl, S3.f, rfl⟩
def Q_rm27_31 (Z : State) (ra1 ra2 : Addr) (h0 : Heap) (n0 : Nat) (v : Option Value) (h : Heap) (L : List Loc) : Prop := v = none ∧ Fr n0 L ∧ h = h0
theorem rm27_31 (W : Wd a0 Z) (I0 : IO Z n0 h0) {ra1 ra2 : Addr} (P0 : Fld Z h0 ra1 ss23 "this$0" ss37 (.ref ra2)) (P1 : Fld Z h0 ra2 ss5 ss6 "I" (.int (1 : Int32))) (P2 : Fld Z h0 ra1 ss23 ss39 "I" (.int (1 : Int32))) : OwnM l yy53 (.code yy53 k27_ 1 none) ⟨0, 0, 0, 0⟩ #[(.ref ra1)] Z h0 (Q_rm27_31 Z ra1 ra2 h0 n0) := by
  refine own_open [] [] #[.val (.ref ra1)] (plainFor_of_name pn_10) I0 ?_
  intro p e s m below meth c T b S0
  refine gAl b S0 d27_0 rfl rfl 1 rfl ?_
  refine gGf (host := "") b S0 d27_1 (.inl (W 223 rfl)) Via.refl P0 4 rfl fun T1 S1 => ?_
  refine gGf (host := "") b S1 d27_4 (.inl (W 228 rfl)) (Via.of (W 101 rfl)) P1 7 rfl fun T2 S2 => ?_
  refine gAl b S2 d27_7 rfl rfl 8 rfl ?_
  refine gGf (host := "") b S2 d27_8 (.inl (W 229 rfl)) Via.refl P2 11 rfl fun T3 S3 => ?_
  refine gIcY b S3 d27_11 rfl 22 (by decide) rfl ?_
  exact gRetV b S3 d27_22 (own_le rfl) (own_le rfl) ⟨rfl, S3.f, rfl⟩
def Q_rm26_30 (Z : State) (ra1 ra2 ra3 ra4 : Addr) (ca5 : ClassId) (h0 : Heap) (n0 : Nat) (v : Option Value) (h : Heap) (L : List Loc) : Prop := v = some (.ref ra4) ∧ Fr n0 L ∧ Keep h0 h [ra1] ∧ KeepF h0 h [(ra1, some (sl18 Z)), (ra1, some (sl19 Z))] ∧ Fld Z h ra1 ss23 "cursor" "I" (.int (1 : Int32)) ∧ Fld Z h ra1 ss23 "lastRet" "I" (.int (0 : Int32))
theorem rm26_30 (W : Wd a0 Z) (I0 : IO Z n0 h0) {ra1 ra2 ra3 ra4 : Addr} {ca5 : ClassId} (P0 : Exa Z h0 ra1 ss23) (P1 : Fld Z h0 ra1 ss23 "this$0" ss37 (.ref ra2)) (P2 : Fld Z h0 ra2 ss5 ss6 "I" (.int (1 : Int32))) (P3 : Fld Z h0 ra1 ss23 ss39 "I" (.int (1 : Int32))) (P4 : Fld Z h0 ra1 ss23 "cursor" "I" (.int (0 : Int32))) (P5 : Fld Z h0 ra2 ss2 ss3 "I" (.int (1 : Int32))) (P6 : Fld Z h0 ra2 ss2 ss12 ss7 (.ref ra3)) (P7 : Arv Z h0 ra3 ca5 (.object ss4) (10 : Int32) [(.ref ra4), .null, .null, .null, .null, .null, .null, .null, .null, .null] .null) (P8 : n0 ≤ ra1) (P9 : Fld Z h0 ra1 ss23 "lastRet" "I" (.int (-1 : Int32))) (P10 : ra3 ≠ ra1) : OwnM l yy55 (.code yy55 k26_ 3 (some (.object ss4))) ⟨1, 0, 0, 12⟩ #[(.ref ra1)] Z h0 (Q_rm26_30 Z ra1 ra2 ra3 ra4 ca5 h0 n0) := by
  refine own_open [ra1] [(ra1, some (sl18 Z)), (ra1, some (sl19 Z))] #[.val (.ref ra1), .unset, .unset] (plainFor_of_name pn_10) I0 ?_
  intro p e s m below meth c T b S0
  refine gAl b S0 d26_0 rfl rfl 1 rfl ?_
  refine cV b S0 d26_1 (W 251 rfl) (W 252 rfl) (W 254 rfl) (W 253 rfl) (W 218 rfl) (W 255 rfl) (rm27_31 W S0.i P1 P2 P3) P0 (by decide) (lenOf pd_0 rfl) rfl [] rfl 0 (own_le rfl) rfl 4 rfl fun T1 L1 v1 X1 q1 => ?_
  obtain ⟨rfl, N1q, e1⟩ := q1
  have S1 := S0.same X1 N1q e1
  refine gRn ?_
  refine gAl b S1 d26_4 rfl rfl 5 rfl ?_
  refine gGf (host := "") b S1 d26_5 (.inl (W 240 rfl)) Via.refl P4 8 rfl fun T2 S2 => ?_
  refine gIs b S2 d26_8 #[.val (.ref ra1), .val (.int (0 : Int32)), .unset] rfl 9 rfl ?_
  refine gIl b S2 d26_9 rfl 10 rfl ?_
  refine gAl b S2 d26_10 rfl rfl 11 rfl ?_
  refine gGf (host := "") b S2 d26_11 (.inl (W 223 rfl)) Via.refl P1 14 rfl fun T3 S3 => ?_
  refine gGf b S3 d26_14 (.inr (W 242 rfl)) Via.refl P5 17 rfl fun T4 S4 => ?_
  refine gIcY b S4 d26_17 rfl 28 (by decide) rfl ?_
  refine gAl b S4 d26_28 rfl rfl 29 rfl ?_
  refine gGf (host := "") b S4 d26_29 (.inl (W 223 rfl)) Via.refl P1 32 rfl fun T5 S5 => ?_
  refine gGf (host := "") b S5 d26_32 (.inl (W 256 rfl)) Via.refl P6 35 rfl fun T6 S6 => ?_
  refine gAs b S6 d26_35 rfl #[.val (.ref ra1), .val (.int (0 : Int32)), .val (.ref ra3)] rfl 36 rfl ?_
  refine gIl b S6 d26_36 rfl 37 rfl ?_
  refine gAl b S6 d26_37 rfl rfl 38 rfl ?_
  refine gLen b S6 d26_38 P7 39 rfl ?_
  refine gIcY b S6 d26_39 rfl 50 (by decide) rfl ?_
  refine gAl b S6 d26_50 rfl rfl 51 rfl ?_
  refine gIl b S6 d26_51 rfl 52 rfl ?_
  refine gIc b S6 d26_52 1 rfl 53 rfl ?_
  refine gAdd b S6 d26_53 1 rfl 54 rfl ?_
  refine gPf (host := "") b S6 .int d26_54 (.inl (W 240 rfl)) Via.refl P4 P0 (.inl (W 241 rfl)) (W 217 rfl) pf2 rfl rfl P8 (.inl ⟨mI 0 rfl, mI 0 rfl⟩) 57 rfl fun T7 h7 W7 F7 S7 => ?_
  refine gAl b S7 d26_57 rfl rfl 58 rfl ?_
  refine gAl b S7 d26_58 rfl rfl 59 rfl ?_
  refine gIl b S7 d26_59 rfl 60 rfl ?_
  refine gDx b S7 d26_60 rfl rfl 61 rfl ?_
  refine gPf (host := "") b S7 .int d26_61 (.inl (W 226 rfl)) Via.refl (P9.other W7 (.inr (sn111 W))) (P0.wr W7) (.inl (W 227 rfl)) (W 217 rfl) pf2 rfl rfl P8 (.inl ⟨mI 0 rfl, mI 1 rfl⟩) 64 rfl fun T8 h8 W8 F8 S8 => ?_
  have f9 := ((P7.other W7 P10).other W8 P10)
  refine gAald b S8 d26_64 f9 rfl (by decide) (by decide) (.ref ra4) rfl 65 rfl ?_
  exact gRetA b S8 d26_65 rfl rfl rfl (own_le rfl) (own_le rfl) ⟨rfl, S8.f, S8.k, S8.kf, (F7.other W8 (.inr (sn109 W))), F8⟩
def Q_rm33_37 (Z : State)  (h0 : Heap) (n0 : Nat) (v : Option Value) (h : Heap) (L : List Loc) : Prop := v = some (.int (0 : Int32)) ∧ Fr n0 L ∧ h = h0
theorem rm33_37 (W : Wd a0 Z) (I0 : IO Z n0 h0)   : OwnM l yy64 (.code yy64 k33_ 3 (some .int)) ⟨0, 0, 0, 0⟩ #[(.int (0 : Int32)), (.int (1 : Int32)), .null] Z h0 (Q_rm33_37 Z  h0 n0) := by
  refine own_open [] [] #[.val (.int (0 : Int32)), .val (.int (1 : Int32)), .val .null] (plainFor_of_name pn_11) I0 ?_
  intro p e s m below meth c T b S0
  refine gIl b S0 d33_0 rfl 1 rfl ?_
  refine gIfN b S0 d33_1 rfl 4 rfl ?_
  refine gIl b S0 d33_4 rfl 5 rfl ?_
  refine gIl b S0 d33_5 rfl 6 rfl ?_
  refine gIcY b S0 d33_6 rfl 16 (by decide) rfl ?_
  refine gIl b S0 d33_16 rfl 17 rfl ?_
  exact gRetI b S0 d33_17 (own_le rfl) (own_le rfl) ⟨rfl, S0.f, rfl⟩
def Q_rm32_36 (Z : State)  (h0 : Heap) (n0 : Nat) (v : Option Value) (h : Heap) (L : List Loc) : Prop := v = some (.int (0 : Int32)) ∧ Fr n0 L ∧ h = h0
theorem rm32_36 (W : Wd a0 Z) (I0 : IO Z n0 h0)   : OwnM l yy63 (.code yy63 k32_ 2 (some .int)) ⟨1, 0, 0, 14⟩ #[(.int (0 : Int32)), (.int (1 : Int32))] Z h0 (Q_rm32_36 Z  h0 n0) := by
  refine own_open [] [] #[.val (.int (0 : Int32)), .val (.int (1 : Int32))] (plainFor_of_name pn_12) I0 ?_
  intro p e s m below meth c T b S0
  refine gIl b S0 d32_0 rfl 1 rfl ?_
  refine gIl b S0 d32_1 rfl 2 rfl ?_
  refine gNull b S0 d32_2 3 rfl ?_
  refine cS b S0 d32_3 (W 286 rfl) (W 287 rfl) (W 288 rfl) (W 289 rfl) (rm33_37 W S0.i) (by decide) (lenOf pd_18 rfl) rfl [] rfl 0 (own_le rfl) rfl 6 rfl fun T1 L1 v1 X1 q1 => ?_
  obtain ⟨rfl, N1q, e1⟩ := q1
  have S1 := S0.same X1 N1q e1
  refine gRv ?_
  exact gRetI b S1 d32_6 (own_le rfl) (own_le rfl) ⟨rfl, S1.f, rfl⟩
def Q_rm34_38 (Z : State) (ra1 ra2 ra3 : Addr) (ca4 : ClassId) (h0 : Heap) (n0 : Nat) (v : Option Value) (h : Heap) (L : List Loc) : Prop := v = some (.ref ra3) ∧ Fr n0 L ∧ h = h0
theorem rm34_38 (W : Wd a0 Z) (I0 : IO Z n0 h0) {ra1 ra2 ra3 : Addr} {ca4 : ClassId} (P0 : Fld Z h0 ra1 ss2 ss12 ss7 (.ref ra2)) (P1 : Arv Z h0 ra2 ca4 (.object ss4) (10 : Int32) [(.ref ra3), .null, .null, .null, .null, .null, .null, .null, .null, .null] .null) : OwnM l yy45 (.code yy45 k34_ 2 (some (.object ss4))) ⟨0, 0, 0, 0⟩ #[(.ref ra1), (.int (0 : Int32))] Z h0 (Q_rm34_38 Z ra1 ra2 ra3 ca4 h0 n0) := by
  refine own_open [] [] #[.val (.ref ra1), .val (.int (0 : Int32))] (plainFor_of_name pn_3) I0 ?_
  intro p e s m below meth c T b S0
  refine gAl b S0 d34_0 rfl rfl 1 rfl ?_
  refine gGf (host := "") b S0 d34_1 (.inl (W 43 rfl)) Via.refl P0 4 rfl fun T1 S1 => ?_
  refine gIl b S1 d34_4 rfl 5 rfl ?_
  refine gAald b S1 d34_5 P1 rfl (by decide) (by decide) (.ref ra3) rfl 6 rfl ?_
  exact gRetA b S1 d34_6 rfl rfl rfl (own_le rfl) (own_le rfl) ⟨rfl, S1.f, rfl⟩
def Q_rm31_35 (Z : State) (ra1 ra2 ra3 : Addr) (ca4 : ClassId) (h0 : Heap) (n0 : Nat) (v : Option Value) (h : Heap) (L : List Loc) : Prop := v = some (.ref ra3) ∧ Fr n0 L ∧ h = h0
theorem rm31_35 (W : Wd a0 Z) (I0 : IO Z n0 h0) {ra1 ra2 ra3 : Addr} {ca4 : ClassId} (P0 : Fld Z h0 ra1 ss2 ss3 "I" (.int (1 : Int32))) (P1 : Exa Z h0 ra1 ss2) (P2 : Fld Z h0 ra1 ss2 ss12 ss7 (.ref ra2)) (P3 : Arv Z h0 ra2 ca4 (.object ss4) (10 : Int32) [(.ref ra3), .null, .null, .null, .null, .null, .null, .null, .null, .null] .null) : OwnM l yy46 (.code yy46 k31_ 2 (some (.object ss4))) ⟨2, 0, 0, 27⟩ #[(.ref ra1), (.int (0 : Int32))] Z h0 (Q_rm31_35 Z ra1 ra2 ra3 ca4 h0 n0) := by
  refine own_open [] [] #[.val (.ref ra1), .val (.int (0 : Int32))] (plainFor_of_name pn_3) I0 ?_
  intro p e s m below meth c T b S0
  refine gIl b S0 d31_0 rfl 1 rfl ?_
  refine gAl b S0 d31_1 rfl rfl 2 rfl ?_
  refine gGf (host := "") b S0 d31_2 (.inl (W 102 rfl)) Via.refl P0 5 rfl fun T1 S1 => ?_
  refine cS b S1 d31_5 (W 282 rfl) (W 283 rfl) (W 284 rfl) (W 285 rfl) (rm32_36 W S1.i) (by decide) (lenOf pd_2 rfl) rfl [] rfl 0 (own_le rfl) rfl 8 rfl fun T2 L2 v2 X2 q2 => ?_
  obtain ⟨rfl, N2q, e2⟩ := q2
  have S2 := S1.same X2 N2q e2
  refine gRv ?_
  refine gPop b S2 d31_8 rfl 9 rfl ?_
  refine gAl b S2 d31_9 rfl rfl 10 rfl ?_
  refine gIl b S2 d31_10 rfl 11 rfl ?_
  refine cV b S2 d31_11 (W 290 rfl) (W 291 rfl) (W 293 rfl) (W 292 rfl) (W 23 rfl) (W 294 rfl) (rm34_38 W S2.i P2 P3) P1 (by decide) (lenOf pd_19 rfl) rfl [] rfl 0 (own_le rfl) rfl 14 rfl fun T3 L3 v3 X3 q3 => ?_
  obtain ⟨rfl, N3q, e3⟩ := q3
  have S3 := S2.same X3 N3q e3
  refine gRv ?_
  exact gRetA b S3 d31_14 rfl rfl rfl (own_le rfl) (own_le rfl) ⟨rfl, S3.f, rfl⟩
def Q_rm30_34 (Z : State) (ra1 ra2 ra3 ra4 : Addr) (ca5 : ClassId) (h0 : Heap) (n0 : Nat) (v : Option Value) (h : Heap) (L : List Loc) : Prop := v = some (.ref ra4) ∧ Fr n0 L ∧ h = h0
theorem rm30_34 (W : Wd a0 Z) (I0 : IO Z n0 h0) {ra1 ra2 ra3 ra4 : Addr} {ca5 : ClassId} (P0 : Fld Z h0 ra1 ss10 ss19 ss20 (.ref ra2)) (P1 : Exa Z h0 ra2 ss2) (P2 : Fld Z h0 ra2 ss2 ss3 "I" (.int (1 : Int32))) (P3 : Fld Z h0 ra2 ss2 ss12 ss7 (.ref ra3)) (P4 : Arv Z h0 ra3 ca5 (.object ss4) (10 : Int32) [(.ref ra4), .null, .null, .null, .null, .null, .null, .null, .null, .null] .null) : OwnM l yy35 (.code yy35 k30_ 2 (some (.object ss4))) ⟨3, 0, 0, 40⟩ #[(.ref ra1), (.int (0 : Int32))] Z h0 (Q_rm30_34 Z ra1 ra2 ra3 ra4 ca5 h0 n0) := by
  refine own_open [] [] #[.val (.ref ra1), .val (.int (0 : Int32))] (plainFor_of_name pn_4) I0 ?_
  intro p e s m below meth c T b S0
  refine gIl b S0 d30_0 rfl 1 rfl ?_
  refine gIc b S0 d30_1 (-1) rfl 2 rfl ?_
  refine gIcY b S0 d30_2 rfl 9 (by decide) rfl ?_
  refine gAl b S0 d30_9 rfl rfl 10 rfl ?_
  refine gGf (host := "") b S0 d30_10 (.inl (W 45 rfl)) Via.refl P0 13 rfl fun T1 S1 => ?_
  refine gIl b S1 d30_13 rfl 14 rfl ?_
  refine cI (xi := yy59) b S1 d30_14 (W 274 rfl) (W 275 rfl) (fun hZ => mvT hZ (W 276 rfl)) (W 277 rfl) (W 278 rfl) (W 279 rfl) (W 280 rfl) (W 98 rfl) (W 23 rfl) (W 281 rfl) (rm31_35 W S1.i P2 P1 P3 P4) P1 (by decide) (lenOf pd_19 rfl) rfl [] rfl 0 (own_le rfl) rfl 19 rfl fun T2 L2 v2 X2 q2 => ?_
  obtain ⟨rfl, N2q, e2⟩ := q2
  have S2 := S1.same X2 N2q e2
  refine gRv ?_
  exact gRetA b S2 d30_19 rfl rfl rfl (own_le rfl) (own_le rfl) ⟨rfl, S2.f, rfl⟩
def Q_rm29_33 (Z : State) (ra1 ra2 ra3 ra4 ra5 ra6 : Addr) (ca7 : ClassId) (h0 : Heap) (n0 : Nat) (v : Option Value) (h : Heap) (L : List Loc) : Prop := v = some (.ref ra6) ∧ Fr n0 L ∧ h = h0
theorem rm29_33 (W : Wd a0 Z) (I0 : IO Z n0 h0) {ra1 ra2 ra3 ra4 ra5 ra6 : Addr} {ca7 : ClassId} (P0 : Fld Z h0 ra1 ss0 ss15 ss16 (.ref ra2)) (P1 : Fld Z h0 ra2 ss8 ss22 ss18 (.ref ra3)) (P2 : Fld Z h0 ra1 ss0 ss14 "I" (.int (0 : Int32))) (P3 : Exa Z h0 ra3 ss10) (P4 : Fld Z h0 ra3 ss10 ss19 ss20 (.ref ra4)) (P5 : Exa Z h0 ra4 ss2) (P6 : Fld Z h0 ra4 ss2 ss3 "I" (.int (1 : Int32))) (P7 : Fld Z h0 ra4 ss2 ss12 ss7 (.ref ra5)) (P8 : Arv Z h0 ra5 ca7 (.object ss4) (10 : Int32) [(.ref ra6), .null, .null, .null, .null, .null, .null, .null, .null, .null] .null) (P9 : Exa Z h0 ra6 ss1) : OwnM l yy37 (.code yy37 k29_ 1 (some (.object ss1))) ⟨4, 0, 0, 53⟩ #[(.ref ra1)] Z h0 (Q_rm29_33 Z ra1 ra2 ra3 ra4 ra5 ra6 ca7 h0 n0) := by
  refine own_open [] [] #[.val (.ref ra1)] (plainFor_of_name pn_8) I0 ?_
  intro p e s m below meth c T b S0
  refine gAl b S0 d29_0 rfl rfl 1 rfl ?_
  refine gGf (host := "") b S0 d29_1 (.inl (W 267 rfl)) Via.refl P0 4 rfl fun T1 S1 => ?_
  refine gNnY b S1 d29_4 11 (by decide) rfl ?_
  refine gAl b S1 d29_11 rfl rfl 12 rfl ?_
  refine gGf (host := "") b S1 d29_12 (.inl (W 267 rfl)) Via.refl P0 15 rfl fun T2 S2 => ?_
  refine gGf b S2 d29_15 (.inr (W 268 rfl)) Via.refl P1 18 rfl fun T3 S3 => ?_
  refine gAl b S3 d29_18 rfl rfl 19 rfl ?_
  refine gGf (host := "") b S3 d29_19 (.inl (W 155 rfl)) Via.refl P2 22 rfl fun T4 S4 => ?_
  refine cV b S4 d29_22 (W 269 rfl) (W 270 rfl) (W 272 rfl) (W 271 rfl) (W 16 rfl) (W 273 rfl) (rm30_34 W S4.i P4 P5 P6 P7 P8) P3 (by decide) (lenOf pd_19 rfl) rfl [] rfl 0 (own_le rfl) rfl 25 rfl fun T5 L5 v5 X5 q5 => ?_
  obtain ⟨rfl, N5q, e5⟩ := q5
  have S5 := S4.same X5 N5q e5
  refine gRv ?_
  refine gCc b S5 d29_25 (W 295 rfl) (Ins.self P9) 28 rfl fun T6 S6 => ?_
  exact gRetA b S6 d29_28 rfl rfl rfl (own_le rfl) (own_le rfl) ⟨rfl, S6.f, rfl⟩
def Q_rm36_40 (Z : State) (ra1 ra2 ra3 ra4 ra5 ra6 : Addr) (ca7 : ClassId) (h0 : Heap) (n0 : Nat) (v : Option Value) (h : Heap) (L : List Loc) : Prop := v = none ∧ Fr n0 L ∧ Keep h0 h [ra6] ∧ KeepF h0 h [(ra6, some (sl9 Z)), (ra6, some (sl12 Z))] ∧ Fld Z h ra6 ss1 ss13 "I" (.int (-1 : Int32)) ∧ Fld Z h ra6 ss1 ss3 "I" (.int (0 : Int32))
theorem rm36_40 (W : Wd a0 Z) (I0 : IO Z n0 h0) {ra1 ra2 ra3 ra4 ra5 ra6 : Addr} {ca7 : ClassId} (P0 : Fld Z h0 ra1 ss0 ss15 ss16 (.ref ra2)) (P1 : Fld Z h0 ra1 ss0 ss9 "I" (.int (-1 : Int32))) (P2 : Fld Z h0 ra2 ss8 ss22 ss18 (.ref ra3)) (P3 : Fld Z h0 ra1 ss0 ss14 "I" (.int (0 : Int32))) (P4 : Exa Z h0 ra3 ss10) (P5 : Fld Z h0 ra3 ss10 ss19 ss20 (.ref ra4)) (P6 : Exa Z h0 ra4 ss2) (P7 : Fld Z h0 ra4 ss2 ss3 "I" (.int (1 : Int32))) (P8 : Fld Z h0 ra4 ss2 ss12 ss7 (.ref ra5)) (P9 : Arv Z h0 ra5 ca7 (.object ss4) (10 : Int32) [(.ref ra6), .null, .null, .null, .null, .null, .null, .null, .null, .null] .null) (P10 : Exa Z h0 ra6 ss1) (P11 : Fld Z h0 ra1 ss0 ss11 "I" (.int (-1 : Int32))) (P12 : Fld Z h0 ra6 ss1 ss13 "I" (.int (0 : Int32))) (P13 : n0 ≤ ra6) (P14 : ra1 ≠ ra6) (P15 : ra2 ≠ ra6) (P16 : ra3 ≠ ra6) (P17 : ra4 ≠ ra6) (P18 : ra5 ≠ ra6) (P19 : Fld Z h0 ra6 ss1 ss3 "I" (.int (1 : Int32))) : OwnM l yy25 (.code yy25 k36_ 2 none) ⟨4, 0, 0, 53⟩ #[(.ref ra1)] Z h0 (Q_rm36_40 Z ra1 ra2 ra3 ra4 ra5 ra6 ca7 h0 n0) := by
  refine own_open [ra6] [(ra6, some (sl9 Z)), (ra6, some (sl12 Z))] #[.val (.ref ra1), .unset] (plainFor_of_name pn_5) I0 ?_
  intro p e s m below meth c T b S0
  refine gAl b S0 d36_0 rfl rfl 1 rfl ?_
  refine gGfR b S0 d36_1 (W 188 rfl) Via.refl P0 4 rfl fun T1 S1 => ?_
  refine gAs b S1 d36_4 rfl #[.val (.ref ra1), .val (.ref ra2)] rfl 5 rfl ?_
  refine gAl b S1 d36_5 rfl rfl 6 rfl ?_
  refine gGfR b S1 d36_6 (W 191 rfl) Via.refl P1 9 rfl fun T2 S2 => ?_
  refine gIc b S2 d36_9 (-1) rfl 10 rfl ?_
  refine gIcN b S2 d36_10 rfl 13 rfl ?_
  refine gAl b S2 d36_13 rfl rfl 14 rfl ?_
  refine gGf (host := "") b S2 d36_14 (.inl (W 52 rfl)) Via.refl P2 17 rfl fun T3 S3 => ?_
  refine gAl b S3 d36_17 rfl rfl 18 rfl ?_
  refine gGfR b S3 d36_18 (W 190 rfl) Via.refl P3 21 rfl fun T4 S4 => ?_
  refine cV b S4 d36_21 (W 306 rfl) (W 270 rfl) (W 272 rfl) (W 271 rfl) (W 16 rfl) (W 273 rfl) (rm30_34 W S4.i P5 P6 P7 P8 P9) P4 (by decide) (lenOf pd_19 rfl) rfl [] rfl 0 (own_le rfl) rfl 24 rfl fun T5 L5 v5 X5 q5 => ?_
  obtain ⟨rfl, N5q, e5⟩ := q5
  have S5 := S4.same X5 N5q e5
  refine gRv ?_
  refine gCc b S5 d36_24 (W 67 rfl) (Ins.self P10) 27 rfl fun T6 S6 => ?_
  refine gAl b S6 d36_27 rfl rfl 28 rfl ?_
  refine gGfR b S6 d36_28 (W 193 rfl) Via.refl P11 31 rfl fun T7 S7 => ?_
  refine gPfR b S7 .int d36_31 (W 192 rfl) Via.refl P12 P10 (W 75 rfl) (W 68 rfl) pf2 rfl rfl P13 (.inl ⟨mI 0 rfl, mI 0 rfl⟩) 34 rfl fun T8 h8 W8 F8 S8 => ?_
  refine gGoto b S8 d36_34 58 (by decide) rfl ?_
  refine gAl b S8 d36_58 rfl rfl 59 rfl ?_
  refine gGfR b S8 d36_59 (W 193 rfl) Via.refl (P11.other W8 (Or.inl P14)) 62 rfl fun T9 S9 => ?_
  refine gIc b S9 d36_62 (-1) rfl 63 rfl ?_
  refine gIcY b S9 d36_63 rfl 87 (by decide) rfl ?_
  refine gAl b S9 d36_87 rfl rfl 88 rfl ?_
  refine gGf (host := "") b S9 d36_88 (.inl (W 52 rfl)) Via.refl (P2.other W8 (Or.inl P15)) 91 rfl fun T10 S10 => ?_
  refine gAl b S10 d36_91 rfl rfl 92 rfl ?_
  refine gGfR b S10 d36_92 (W 190 rfl) Via.refl (P3.other W8 (Or.inl P14)) 95 rfl fun T11 S11 => ?_
  refine cV b S11 d36_95 (W 306 rfl) (W 270 rfl) (W 272 rfl) (W 271 rfl) (W 16 rfl) (W 273 rfl) (rm30_34 W S11.i (P5.other W8 (Or.inl P16)) (P6.wr W8) (P7.other W8 (Or.inl P17)) (P8.other W8 (Or.inl P17)) (P9.other W8 P18)) (P4.wr W8) (by decide) (lenOf pd_19 rfl) rfl [] rfl 0 (own_le rfl) rfl 98 rfl fun T12 L12 v12 X12 q12 => ?_
  obtain ⟨rfl, N12q, e12⟩ := q12
  have S12 := S11.same X12 N12q e12
  refine gRv ?_
  refine gCc b S12 d36_98 (W 67 rfl) (Ins.self (P10.wr W8)) 101 rfl fun T13 S13 => ?_
  refine gDup b S13 d36_101 rfl 102 rfl ?_
  refine gGfR b S13 d36_102 (W 194 rfl) Via.refl (P19.other W8 (.inr (sn51 W))) 105 rfl fun T14 S14 => ?_
  refine gIc b S14 d36_105 1 rfl 106 rfl ?_
  refine gSub b S14 d36_106 0 rfl 107 rfl ?_
  refine gPfR b S14 .int d36_107 (W 194 rfl) Via.refl (P19.other W8 (.inr (sn51 W))) (P10.wr W8) (W 195 rfl) (W 68 rfl) pf2 rfl rfl P13 (.inl ⟨mI 0 rfl, mI 1 rfl⟩) 110 rfl fun T15 h15 W15 F15 S15 => ?_
  have f16 := (F8.other W15 (.inr (sn100 W)))
  exact gRetV b S15 d36_110 (own_le rfl) (own_le rfl) ⟨rfl, S15.f, S15.k, S15.kf, f16, F15⟩
def Q_rm20_41 (Z : State) (ra1 ra2 ra3 : Addr) (h0 : Heap) (n0 : Nat) (v : Option Value) (h : Heap) (L : List Loc) : Prop := v = none ∧ Fr n0 L ∧ Keep h0 h [ra1, ra2] ∧ KeepF h0 h [(ra1, some (sl2 Z)), (ra1, some (sl6 Z)), (ra1, some (sl1 Z)), (ra2, some (sl9 Z)), (ra2, some (sl12 Z))] ∧ Fld Z h ra1 ss0 ss14 "I" (.int (0 : Int32)) ∧ Fld Z h ra1 ss0 ss9 "I" (.int (-1 : Int32)) ∧ Fld Z h ra1 ss0 ss11 "I" (.int (-1 : Int32)) ∧ Fld Z h ra2 ss1 ss13 "I" (.int (0 : Int32)) ∧ Fld Z h ra2 ss1 ss3 "I" (.int (1 : Int32))
theorem rm20_41 (W : Wd a0 Z) (I0 : IO Z n0 h0) {ra1 ra2 ra3 : Addr} (P0 : Fld Z h0 ra2 ss1 ss15 ss16 (.ref ra3)) (P1 : Fld Z h0 ra1 ss0 ss17 "I" (.int (0 : Int32))) (P2 : Fld Z h0 ra2 ss1 ss17 "I" (.int (0 : Int32))) (P3 : Exa Z h0 ra1 ss0) (P4 : Fld Z h0 ra1 ss0 ss14 "I" (.int (0 : Int32))) (P5 : n0 ≤ ra1) (P6 : Fld Z h0 ra1 ss0 ss9 "I" (.int (-1 : Int32))) (P7 : Fld Z h0 ra2 ss1 ss13 "I" (.int (-1 : Int32))) (P8 : Exa Z h0 ra2 ss1) (P9 : ra2 ≠ ra1) (P10 : Fld Z h0 ra1 ss0 ss11 "I" (.int (-1 : Int32))) (P11 : n0 ≤ ra2) (P12 : Fld Z h0 ra2 ss1 ss3 "I" (.int (0 : Int32))) : OwnM l yy21 (.code yy21 k20_ 3 none) ⟨0, 0, 0, 0⟩ #[(.ref ra1), (.ref ra2)] Z h0 (Q_rm20_41 Z ra1 ra2 ra3 h0 n0) := by
  refine own_open [ra1, ra2] [(ra1, some (sl2 Z)), (ra1, some (sl6 Z)), (ra1, some (sl1 Z)), (ra2, some (sl9 Z)), (ra2, some (sl12 Z))] #[.val (.ref ra1), .val (.ref ra2), .unset] (plainFor_of_name pn_5) I0 ?_
  intro p e s m below meth c T b S0
  refine gAl b S0 d20_0 rfl rfl 1 rfl ?_
  refine gGfR b S0 d20_1 (W 186 rfl) Via.refl P0 4 rfl fun T1 S1 => ?_
  refine gAs b S1 d20_4 rfl #[.val (.ref ra1), .val (.ref ra2), .val (.ref ra3)] rfl 5 rfl ?_
  refine gAl b S1 d20_5 rfl rfl 6 rfl ?_
  refine gGfR b S1 d20_6 (W 187 rfl) Via.refl P1 9 rfl fun T2 S2 => ?_
  refine gIc b S2 d20_9 (-1) rfl 10 rfl ?_
  refine gIcY b S2 d20_10 rfl 30 (by decide) rfl ?_
  refine gAl b S2 d20_30 rfl rfl 31 rfl ?_
  refine gAl b S2 d20_31 rfl rfl 32 rfl ?_
  refine gGfR b S2 d20_32 (W 134 rfl) Via.refl P2 35 rfl fun T3 S3 => ?_
  refine gPfR b S3 .int d20_35 (W 190 rfl) Via.refl P4 P3 (W 156 rfl) (W 139 rfl) pf2 rfl rfl P5 (.inl ⟨mI 0 rfl, mI 0 rfl⟩) 38 rfl fun T4 h4 W4 F4 S4 => ?_
  refine gAl b S4 d20_38 rfl rfl 39 rfl ?_
  refine gIc b S4 d20_39 (-1) rfl 40 rfl ?_
  refine gPfR b S4 .int d20_40 (W 191 rfl) Via.refl (P6.other W4 (.inr (sn74 W))) (P3.wr W4) (W 158 rfl) (W 139 rfl) pf2 rfl rfl P5 (.inl ⟨mI 0 rfl, mI 1 rfl⟩) 43 rfl fun T5 h5 W5 F5 S5 => ?_
  refine gAl b S5 d20_43 rfl rfl 44 rfl ?_
  refine gAl b S5 d20_44 rfl rfl 45 rfl ?_
  have f6 := ((P7.other W4 (Or.inl P9)).other W5 (Or.inl P9))
  refine gGfR b S5 d20_45 (W 192 rfl) Via.refl f6 48 rfl fun T7 S7 => ?_
  have f8 := ((P10.other W4 (.inr (sn76 W))).other W5 (.inr (sn77 W)))
  refine gPfR b S7 .int d20_48 (W 193 rfl) Via.refl f8 ((P3.wr W4).wr W5) (W 160 rfl) (W 139 rfl) pf2 rfl rfl P5 (.inl ⟨mI 0 rfl, mI 2 rfl⟩) 51 rfl fun T9 h9 W9 F9 S9 => ?_
  refine gAl b S9 d20_51 rfl rfl 52 rfl ?_
  refine gGfR b S9 d20_52 (W 192 rfl) Via.refl (f6.other W9 (Or.inl P9)) 55 rfl fun T10 S10 => ?_
  refine gIc b S10 d20_55 (-1) rfl 56 rfl ?_
  refine gIcY b S10 d20_56 rfl 80 (by decide) rfl ?_
  refine gAl b S10 d20_80 rfl rfl 81 rfl ?_
  refine gAl b S10 d20_81 rfl rfl 82 rfl ?_
  have f11 := (((P1.other W4 (.inr (sn82 W))).other W5 (.inr (sn83 W))).other W9 (.inr (sn84 W)))
  refine gGfR b S10 d20_82 (W 187 rfl) Via.refl f11 85 rfl fun T12 S12 => ?_
  refine gPfR b S12 .int d20_85 (W 192 rfl) Via.refl (f6.other W9 (Or.inl P9)) (((P8.wr W4).wr W5).wr W9) (W 75 rfl) (W 68 rfl) pf2 rfl rfl P11 (.inl ⟨mI 1 rfl, mI 3 rfl⟩) 88 rfl fun T13 h13 W13 F13 S13 => ?_
  refine gAl b S13 d20_88 rfl rfl 89 rfl ?_
  refine gDup b S13 d20_89 rfl 90 rfl ?_
  have f14 := ((((P12.other W4 (Or.inl P9)).other W5 (Or.inl P9)).other W9 (Or.inl P9)).other W13 (.inr (sn51 W)))
  refine gGfR b S13 d20_90 (W 194 rfl) Via.refl f14 93 rfl fun T15 S15 => ?_
  refine gIc b S15 d20_93 1 rfl 94 rfl ?_
  refine gAdd b S15 d20_94 1 rfl 95 rfl ?_
  have f16 := ((((P8.wr W4).wr W5).wr W9).wr W13)
  refine gPfR b S15 .int d20_95 (W 194 rfl) Via.refl f14 f16 (W 195 rfl) (W 68 rfl) pf2 rfl rfl P11 (.inl ⟨mI 1 rfl, mI 4 rfl⟩) 98 rfl fun T17 h17 W17 F17 S17 => ?_
  have f18 := ((((F4.other W5 (.inr (sn86 W))).other W9 (.inr (sn87 W))).other W13 (Or.inl (nS P9))).other W17 (Or.inl (nS P9)))
  have f19 := (((F5.other W9 (.inr (sn89 W))).other W13 (Or.inl (nS P9))).other W17 (Or.inl (nS P9)))
  have f20 := ((F9.other W13 (Or.inl (nS P9))).other W17 (Or.inl (nS P9)))
  have f21 := (F13.other W17 (.inr (sn100 W)))
  exact gRetV b S17 d20_98 (own_le rfl) (own_le rfl) ⟨rfl, S17.f, S17.k, S17.kf, f18, f19, f20, f21, F17⟩
def Q_rm35_39 (Z : State) (ra1 ra2 ra3 ra4 ra5 ra6 : Addr) (ca7 : ClassId) (h0 : Heap) (n0 : Nat) (v : Option Value) (h : Heap) (L : List Loc) : Prop := v = none ∧ Fr n0 L ∧ Keep h0 h [ra2, ra1] ∧ KeepF h0 h [(ra2, some (sl12 Z)), (ra2, some (sl9 Z)), (ra1, some (sl1 Z)), (ra1, some (sl6 Z)), (ra1, some (sl2 Z))] ∧ Fld Z h ra2 ss1 ss3 "I" (.int (1 : Int32)) ∧ Fld Z h ra2 ss1 ss13 "I" (.int (0 : Int32)) ∧ Fld Z h ra1 ss0 ss11 "I" (.int (-1 : Int32)) ∧ Fld Z h ra1 ss0 ss9 "I" (.int (-1 : Int32)) ∧ Fld Z h ra1 ss0 ss14 "I" (.int (0 : Int32))
theorem rm35_39 (W : Wd a0 Z) (I0 : IO Z n0 h0) {ra1 ra2 ra3 ra4 ra5 ra6 : Addr} {ca7 : ClassId} (P0 : Fld Z h0 ra1 ss0 ss15 ss16 (.ref ra3)) (P1 : Fld Z h0 ra1 ss0 ss9 "I" (.int (-1 : Int32))) (P2 : Fld Z h0 ra3 ss8 ss22 ss18 (.ref ra4)) (P3 : Fld Z h0 ra1 ss0 ss14 "I" (.int (0 : Int32))) (P4 : Exa Z h0 ra4 ss10) (P5 : Fld Z h0 ra4 ss10 ss19 ss20 (.ref ra5)) (P6 : Exa Z h0 ra5 ss2) (P7 : Fld Z h0 ra5 ss2 ss3 "I" (.int (1 : Int32))) (P8 : Fld Z h0 ra5 ss2 ss12 ss7 (.ref ra6)) (P9 : Arv Z h0 ra6 ca7 (.object ss4) (10 : Int32) [(.ref ra2), .null, .null, .null, .null, .null, .null, .null, .null, .null] .null) (P10 : Exa Z h0 ra2 ss1) (P11 : Fld Z h0 ra1 ss0 ss11 "I" (.int (-1 : Int32))) (P12 : Fld Z h0 ra2 ss1 ss13 "I" (.int (0 : Int32))) (P13 : n0 ≤ ra2) (P14 : Exa Z h0 ra1 ss0) (P15 : ra1 ≠ ra2) (P16 : ra3 ≠ ra2) (P17 : ra4 ≠ ra2) (P18 : ra5 ≠ ra2) (P19 : ra6 ≠ ra2) (P20 : Fld Z h0 ra2 ss1 ss3 "I" (.int (1 : Int32))) (P21 : Fld Z h0 ra2 ss1 ss15 ss16 (.ref ra3)) (P22 : Fld Z h0 ra1 ss0 ss17 "I" (.int (0 : Int32))) (P23 : Fld Z h0 ra2 ss1 ss17 "I" (.int (0 : Int32))) (P24 : n0 ≤ ra1) : OwnM l yy24 (.code yy24 k35_ 2 none) ⟨5, 0, 0, 66⟩ #[(.ref ra1), (.ref ra2)] Z h0 (Q_rm35_39 Z ra1 ra2 ra3 ra4 ra5 ra6 ca7 h0 n0) := by
  refine own_open [ra2, ra1] [(ra2, some (sl12 Z)), (ra2, some (sl9 Z)), (ra1, some (sl1 Z)), (ra1, some (sl6 Z)), (ra1, some (sl2 Z))] #[.val (.ref ra1), .val (.ref ra2)] (plainFor_of_name pn_5) I0 ?_
  intro p e s m below meth c T b S0
  refine gAl b S0 d35_0 rfl rfl 1 rfl ?_
  refine cS b S0 d35_1 (W 303 rfl) (W 304 rfl) (W 9 rfl) (W 305 rfl) (rm36_40 W S0.i P0 P1 P2 P3 P4 P5 P6 P7 P8 P9 P10 P11 P12 P13 P15 P16 P17 P18 P19 P20) (by decide) (lenOf pd_21 rfl) rfl [] rfl 0 (own_le rfl) rfl 4 rfl fun T1 L1 v1 X1 q1 => ?_
  obtain ⟨rfl, N1q, K1q, KF1q, R1_0, R1_1⟩ := q1
  have S1 := S0.call X1 N1q K1q KF1q (allS (.inl (mI 0 rfl)) all0) (fallS (.inl (mI 1 rfl)) (fallS (.inl (mI 0 rfl)) fall0)) (allS P13 all0)
  refine gRn ?_
  refine gAl b S1 d35_4 rfl rfl 5 rfl ?_
  refine gAl b S1 d35_5 rfl rfl 6 rfl ?_
  have f2 := (P21.kf K1q KF1q (nofB (sn23 W) (nofB (sn112 W) nof0)))
  have f3 := (P23.kf K1q KF1q (nofB (sn46 W) (nofB (sn113 W) nof0)))
  refine cS b S1 d35_6 (W 307 rfl) (W 184 rfl) (W 9 rfl) (W 185 rfl) (rm20_41 W S1.i f2 (P22.keep K1q (ninS P15 nin0)) f3 (P14.keep K1q) (P3.keep K1q (ninS P15 nin0)) P24 (P1.keep K1q (ninS P15 nin0)) R1_0 (P10.keep K1q) (nS P15) (P11.keep K1q (ninS P15 nin0)) P13 R1_1) (by decide) (lenOf pd_12 rfl) rfl [] rfl 0 (own_le rfl) rfl 9 rfl fun T4 L4 v4 X4 q4 => ?_
  obtain ⟨rfl, N4q, K4q, KF4q, R4_0, R4_1, R4_2, R4_3, R4_4⟩ := q4
  have S4 := S1.call X4 N4q K4q KF4q (allS (.inl (mI 1 rfl)) (allS (.inl (mI 0 rfl)) all0)) (fallS (.inl (mI 4 rfl)) (fallS (.inl (mI 3 rfl)) (fallS (.inl (mI 2 rfl)) (fallS (.inl (mI 1 rfl)) (fallS (.inl (mI 0 rfl)) fall0))))) (allS P24 (allS P13 all0))
  refine gRn ?_
  exact gRetV b S4 d35_9 (own_le rfl) (own_le rfl) ⟨rfl, S4.f, S4.k, S4.kf, R4_4, R4_3, R4_2, R4_1, R4_0⟩
def Q_rm28_32 (Z : State) (ra1 ra2 ra3 ra4 ra5 ra6 ra7 ra9 : Addr) (ca8 ca10 : ClassId) (h0 : Heap) (n0 : Nat) (v : Option Value) (h : Heap) (L : List Loc) : Prop := ∃ nw1 : Addr, ∃ kw1 : ClassId, v = none ∧ Fr n0 L ∧ Keep h0 h [ra2, ra7, ra1] ∧ KeepF h0 h [(ra2, some (sl16 Z)), (ra2, some (sl17 Z)), (ra2, some (sl23 Z)), (ra7, some (sl11 Z)), (ra1, some (sl2 Z)), (ra1, some (sl6 Z)), (ra1, some (sl1 Z)), (ra7, some (sl9 Z)), (ra7, some (sl12 Z))] ∧ h0.size ≤ nw1 ∧ Fld Z h ra2 ss2 ss12 ss7 (.ref nw1) ∧ Fld Z h ra2 ss2 ss3 "I" (.int (1 : Int32)) ∧ Fld Z h ra2 ss5 ss6 "I" (.int (1 : Int32)) ∧ Fld Z h ra7 ss1 ss21 "I" (.int (1 : Int32)) ∧ Fld Z h ra1 ss0 ss14 "I" (.int (0 : Int32)) ∧ Fld Z h ra1 ss0 ss9 "I" (.int (-1 : Int32)) ∧ Fld Z h ra1 ss0 ss11 "I" (.int (-1 : Int32)) ∧ Fld Z h ra7 ss1 ss13 "I" (.int (0 : Int32)) ∧ Fld Z h ra7 ss1 ss3 "I" (.int (1 : Int32)) ∧ Arv Z h nw1 kw1 (.object ss4) (10 : Int32) [(.ref ra7), .null, .null, .null, .null, .null, .null, .null, .null, .null] .null ∧ Ovr Z kw1 ss4
theorem rm28_32 (W : Wd a0 Z) (I0 : IO Z n0 h0) {ra1 ra2 ra3 ra4 ra5 ra6 ra7 ra9 : Addr} {ca8 ca10 : ClassId} (P0 : Exa Z h0 ra1 ss0) (P1 : Fld Z h0 ra1 ss0 ss15 ss16 (.ref ra3)) (P2 : Fld Z h0 ra3 ss8 ss22 ss18 (.ref ra4)) (P3 : Fld Z h0 ra1 ss0 ss14 "I" (.int (0 : Int32))) (P4 : Exa Z h0 ra4 ss10) (P5 : Fld Z h0 ra4 ss10 ss19 ss20 (.ref ra5)) (P6 : Exa Z h0 ra5 ss2) (P7 : Fld Z h0 ra5 ss2 ss3 "I" (.int (1 : Int32))) (P8 : Fld Z h0 ra5 ss2 ss12 ss7 (.ref ra6)) (P9 : Arv Z h0 ra6 ca8 (.object ss4) (10 : Int32) [(.ref ra7), .null, .null, .null, .null, .null, .null, .null, .null, .null] .null) (P10 : Exa Z h0 ra7 ss1) (P11 : Fld Z h0 ra7 ss1 ss21 "I" (.int (0 : Int32))) (P12 : Exa Z h0 ra2 ss2) (P13 : Fld Z h0 ra2 ss5 ss6 "I" (.int (0 : Int32))) (P14 : n0 ≤ ra2) (P15 : Fld Z h0 ra2 ss2 ss12 ss7 (.ref ra9)) (P16 : Fld Z h0 ra2 ss2 ss3 "I" (.int (0 : Int32))) (P17 : Arv Z Z.heap ra9 ca10 (.object ss4) (0 : Int32) [] .null) (P18 : Sta Z Z.heap ss2 ss30 ss7 (.ref ra9)) (P19 : ra7 ≠ ra2) (P20 : n0 ≤ ra7) (P21 : Fld Z h0 ra1 ss0 ss9 "I" (.int (-1 : Int32))) (P22 : Fld Z h0 ra1 ss0 ss11 "I" (.int (-1 : Int32))) (P23 : Fld Z h0 ra7 ss1 ss13 "I" (.int (0 : Int32))) (P24 : ra1 ≠ ra7) (P25 : ra3 ≠ ra7) (P26 : ra4 ≠ ra7) (P27 : ra5 ≠ ra7) (P28 : ra6 ≠ ra7) (P29 : Fld Z h0 ra7 ss1 ss3 "I" (.int (1 : Int32))) (P30 : Fld Z h0 ra7 ss1 ss15 ss16 (.ref ra3)) (P31 : Fld Z h0 ra1 ss0 ss17 "I" (.int (0 : Int32))) (P32 : Fld Z h0 ra7 ss1 ss17 "I" (.int (0 : Int32))) (P33 : n0 ≤ ra1) (P34 : ra1 ≠ ra2) (P35 : ra3 ≠ ra2) (P36 : ra4 ≠ ra2) (P37 : ra5 ≠ ra2) (P38 : ra6 ≠ ra2) : OwnM l yy22 (.code yy22 k28_ 3 none) ⟨6, 1, 10, 79⟩ #[(.ref ra1), (.ref ra2)] Z h0 (Q_rm28_32 Z ra1 ra2 ra3 ra4 ra5 ra6 ra7 ra9 ca8 ca10 h0 n0) := by
  refine own_open [ra2, ra7, ra1] [(ra2, some (sl16 Z)), (ra2, some (sl17 Z)), (ra2, some (sl23 Z)), (ra7, some (sl11 Z)), (ra1, some (sl2 Z)), (ra1, some (sl6 Z)), (ra1, some (sl1 Z)), (ra7, some (sl9 Z)), (ra7, some (sl12 Z))] #[.val (.ref ra1), .val (.ref ra2), .unset] (plainFor_of_name pn_5) I0 ?_
  intro p e s m below meth c T b S0
  refine gAl b S0 d28_0 rfl rfl 1 rfl ?_
  refine cV b S0 d28_1 (W 262 rfl) (W 263 rfl) (W 265 rfl) (W 264 rfl) (W 140 rfl) (W 266 rfl) (rm29_33 W S0.i P1 P2 P3 P4 P5 P6 P7 P8 P9 P10) P0 (by decide) (lenOf pd_20 rfl) rfl [] rfl 0 (own_le rfl) rfl 4 rfl fun T1 L1 v1 X1 q1 => ?_
  obtain ⟨rfl, N1q, e1⟩ := q1
  have S1 := S0.same X1 N1q e1
  refine gRv ?_
  refine gAs b S1 d28_4 rfl #[.val (.ref ra1), .val (.ref ra2), .val (.ref ra7)] rfl 5 rfl ?_
  refine gAl b S1 d28_5 rfl rfl 6 rfl ?_
  refine gGfR b S1 d28_6 (W 297 rfl) Via.refl P11 9 rfl fun T2 S2 => ?_
  refine gIfN b S2 d28_9 rfl 12 rfl ?_
  refine gAl b S2 d28_12 rfl rfl 13 rfl ?_
  refine gAl b S2 d28_13 rfl rfl 14 rfl ?_
  refine cI (xi := yy58) b S2 d28_14 (W 299 rfl) (W 92 rfl) (fun hZ => mvT hZ (W 93 rfl)) (W 94 rfl) (W 95 rfl) (W 96 rfl) (W 97 rfl) (W 98 rfl) (W 23 rfl) (W 99 rfl) (rm11_10 W S2.i P13 P12 P14 P15 P16 P17 P18 P10) P12 (by decide) (lenOf pd_6 rfl) rfl [] rfl 0 (own_le rfl) rfl 19 rfl fun T3 L3 v3 X3 q3 => ?_
  obtain ⟨nw1_3, kw1_3, rfl, N3q, K3q, KF3q, z3_nw1, R3_0, R3_1, R3_2, R3_3, R3_4⟩ := q3
  have S3 := S2.call X3 N3q K3q KF3q (allS (.inl (mI 0 rfl)) all0) (fallS (.inl (mI 2 rfl)) (fallS (.inl (mI 1 rfl)) (fallS (.inl (mI 0 rfl)) fall0))) (allS P14 all0)
  refine gRv ?_
  refine gPop b S3 d28_19 rfl 20 rfl ?_
  refine gAl b S3 d28_20 rfl rfl 21 rfl ?_
  refine gDup b S3 d28_21 rfl 22 rfl ?_
  refine gGfR b S3 d28_22 (W 297 rfl) Via.refl (P11.keep K3q (ninS P19 nin0)) 25 rfl fun T4 S4 => ?_
  refine gIc b S4 d28_25 1 rfl 26 rfl ?_
  refine gAdd b S4 d28_26 1 rfl 27 rfl ?_
  refine gPfR b S4 .int d28_27 (W 297 rfl) Via.refl (P11.keep K3q (ninS P19 nin0)) (P10.keep K3q) (W 298 rfl) (W 68 rfl) pf2 rfl rfl P20 (.inl ⟨mI 1 rfl, mI 3 rfl⟩) 30 rfl fun T5 h5 W5 F5 S5 => ?_
  refine gAl b S5 d28_30 rfl rfl 31 rfl ?_
  refine gAl b S5 d28_31 rfl rfl 32 rfl ?_
  have f6 := ((P1.keep K3q (ninS P34 nin0)).other W5 (Or.inl P24))
  have f7 := ((P21.keep K3q (ninS P34 nin0)).other W5 (Or.inl P24))
  have f8 := ((P2.keep K3q (ninS P35 nin0)).other W5 (Or.inl P25))
  have f9 := ((P3.keep K3q (ninS P34 nin0)).other W5 (Or.inl P24))
  have f10 := ((P5.keep K3q (ninS P36 nin0)).other W5 (Or.inl P26))
  have f11 := ((P7.keep K3q (ninS P37 nin0)).other W5 (Or.inl P27))
  have f12 := ((P8.keep K3q (ninS P37 nin0)).other W5 (Or.inl P27))
  have f13 := ((P9.keep K3q (ninS P38 nin0)).other W5 P28)
  have f14 := ((P22.keep K3q (ninS P34 nin0)).other W5 (Or.inl P24))
  have f15 := ((P23.keep K3q (ninS P19 nin0)).other W5 (.inr (sn114 W)))
  have f16 := ((P29.keep K3q (ninS P19 nin0)).other W5 (.inr (sn115 W)))
  have f17 := ((P30.keep K3q (ninS P19 nin0)).other W5 (.inr (sn116 W)))
  have f18 := ((P31.keep K3q (ninS P34 nin0)).other W5 (Or.inl P24))
  have f19 := ((P32.keep K3q (ninS P19 nin0)).other W5 (.inr (sn117 W)))
  refine cS b S5 d28_32 (W 300 rfl) (W 301 rfl) (W 9 rfl) (W 302 rfl) (rm35_39 W S5.i f6 f7 f8 f9 ((P4.keep K3q).wr W5) f10 ((P6.keep K3q).wr W5) f11 f12 f13 ((P10.keep K3q).wr W5) f14 f15 P20 ((P0.keep K3q).wr W5) P24 P25 P26 P27 P28 f16 f17 f18 f19 P33) (by decide) (lenOf pd_12 rfl) rfl [] rfl 0 (own_le rfl) rfl 35 rfl fun T20 L20 v20 X20 q20 => ?_
  obtain ⟨rfl, N20q, K20q, KF20q, R20_0, R20_1, R20_2, R20_3, R20_4⟩ := q20
  have S20 := S5.call X20 N20q K20q KF20q (allS (.inl (mI 1 rfl)) (allS (.inl (mI 2 rfl)) all0)) (fallS (.inl (mI 8 rfl)) (fallS (.inl (mI 7 rfl)) (fallS (.inl (mI 6 rfl)) (fallS (.inl (mI 5 rfl)) (fallS (.inl (mI 4 rfl)) fall0))))) (allS P20 (allS P33 all0))
  refine gRn ?_
  have f21 := ((R3_2.other W5 (Or.inl (nS P19))).keep K20q (ninS (nS P19) (ninS (nS P34) nin0)))
  have f22 := ((R3_1.other W5 (Or.inl (nS P19))).keep K20q (ninS (nS P19) (ninS (nS P34) nin0)))
  have f23 := ((R3_0.other W5 (Or.inl (nS P19))).keep K20q (ninS (nS P19) (ninS (nS P34) nin0)))
  have f24 := (F5.kf K20q KF20q (nofB (sn118 W) (nofB (sn57 W) (nofA (nS P24) (nofA (nS P24) (nofA (nS P24) nof0))))))
  have x25 := (nS (nL (tL P10.lt z3_nw1)))
  have x26 := (nS (nL (tL P0.lt z3_nw1)))
  have f27 := ((R3_3.other W5 x25).keep K20q (ninS x25 (ninS x26 nin0)))
  exact gRetV b S20 d28_35 (own_le rfl) (own_le rfl) ⟨nw1_3, kw1_3, rfl, S20.f, S20.k, S20.kf, (S2.sz z3_nw1), f21, f22, f23, f24, R20_4, R20_3, R20_2, R20_1, R20_0, f27, R3_4⟩
def Q_rm25_42 (Z : State) (ra1 ra2 : Addr) (h0 : Heap) (n0 : Nat) (v : Option Value) (h : Heap) (L : List Loc) : Prop := v = some (.int (0 : Int32)) ∧ Fr n0 L ∧ h = h0
theorem rm25_42 (W : Wd a0 Z) (I0 : IO Z n0 h0) {ra1 ra2 : Addr} (P0 : Fld Z h0 ra1 ss23 "cursor" "I" (.int (1 : Int32))) (P1 : Fld Z h0 ra1 ss23 "this$0" ss37 (.ref ra2)) (P2 : Fld Z h0 ra2 ss2 ss3 "I" (.int (1 : Int32))) : OwnM l yy54 (.code yy54 k25_ 1 (some .boolean)) ⟨0, 0, 0, 0⟩ #[(.ref ra1)] Z h0 (Q_rm25_42 Z ra1 ra2 h0 n0) := by
  refine own_open [] [] #[.val (.ref ra1)] (plainFor_of_name pn_10) I0 ?_
  intro p e s m below meth c T b S0
  refine gAl b S0 d25_0 rfl rfl 1 rfl ?_
  refine gGf (host := "") b S0 d25_1 (.inl (W 240 rfl)) Via.refl P0 4 rfl fun T1 S1 => ?_
  refine gAl b S1 d25_4 rfl rfl 5 rfl ?_
  refine gGf (host := "") b S1 d25_5 (.inl (W 223 rfl)) Via.refl P1 8 rfl fun T2 S2 => ?_
  refine gGf b S2 d25_8 (.inr (W 242 rfl)) Via.refl P2 11 rfl fun T3 S3 => ?_
  refine gIcY b S3 d25_11 rfl 18 (by decide) rfl ?_
  refine gIc b S3 d25_18 0 rfl 19 rfl ?_
  exact gRetZ b S3 d25_19 (own_le rfl) (own_le rfl) ⟨rfl, S3.f, rfl⟩
def Q_rm22_26 (Z : State) (ra1 ra2 ra3 ra4 ra6 ra7 ra8 ra9 ra10 : Addr) (ca5 ca11 ca12 : ClassId) (h0 : Heap) (n0 : Nat) (v : Option Value) (h : Heap) (L : List Loc) : Prop := ∃ nw1 : Addr, ∃ nw2 : Addr, ∃ kw1 : ClassId, v = some (.ref nw1) ∧ Fr n0 L ∧ Keep h0 h [ra4, ra10] ∧ KeepF h0 h [(ra10, some (sl12 Z)), (ra10, some (sl9 Z)), (ra4, some (sl1 Z)), (ra4, some (sl6 Z)), (ra4, some (sl2 Z)), (ra10, some (sl11 Z))] ∧ h0.size ≤ nw1 ∧ h0.size ≤ nw2 ∧ Fld Z h ra10 ss1 ss3 "I" (.int (1 : Int32)) ∧ Fld Z h ra10 ss1 ss13 "I" (.int (0 : Int32)) ∧ Fld Z h ra4 ss0 ss11 "I" (.int (-1 : Int32)) ∧ Fld Z h ra4 ss0 ss9 "I" (.int (-1 : Int32)) ∧ Fld Z h ra4 ss0 ss14 "I" (.int (0 : Int32)) ∧ Fld Z h ra10 ss1 ss21 "I" (.int (1 : Int32)) ∧ Exa Z h nw1 ss2 ∧ Fld Z h nw1 ss2 ss12 ss7 (.ref nw2) ∧ Fld Z h nw1 ss2 ss3 "I" (.int (1 : Int32)) ∧ Fld Z h nw1 ss5 ss6 "I" (.int (1 : Int32)) ∧ Arv Z h nw2 kw1 (.object ss4) (10 : Int32) [(.ref ra10), .null, .null, .null, .null, .null, .null, .null, .null, .null] .null ∧ Ovr Z kw1 ss4 ∧ nw2 ≠ nw1
theorem rm22_26 (W : Wd a0 Z) (I0 : IO Z n0 h0) {ra1 ra2 ra3 ra4 ra6 ra7 ra8 ra9 ra10 : Addr} {ca5 ca11 ca12 : ClassId} (P0 : Sta Z Z.heap ss2 ss30 ss7 (.ref ra2)) (P1 : Exa Z h0 ra1 ss2) (P2 : Fld Z h0 ra1 ss5 ss6 "I" (.int (1 : Int32))) (P3 : Fld Z h0 ra1 ss2 ss3 "I" (.int (1 : Int32))) (P4 : Fld Z h0 ra1 ss2 ss12 ss7 (.ref ra3)) (P5 : Arv Z h0 ra3 ca5 (.object ss4) (10 : Int32) [(.ref ra4), .null, .null, .null, .null, .null, .null, .null, .null, .null] .null) (P6 : Exa Z h0 ra4 ss0) (P7 : Fld Z h0 ra4 ss0 ss15 ss16 (.ref ra6)) (P8 : Fld Z h0 ra6 ss8 ss22 ss18 (.ref ra7)) (P9 : Fld Z h0 ra4 ss0 ss14 "I" (.int (0 : Int32))) (P10 : Exa Z h0 ra7 ss10) (P11 : Fld Z h0 ra7 ss10 ss19 ss20 (.ref ra8)) (P12 : Exa Z h0 ra8 ss2) (P13 : Fld Z h0 ra8 ss2 ss3 "I" (.int (1 : Int32))) (P14 : Fld Z h0 ra8 ss2 ss12 ss7 (.ref ra9)) (P15 : Arv Z h0 ra9 ca11 (.object ss4) (10 : Int32) [(.ref ra10), .null, .null, .null, .null, .null, .null, .null, .null, .null] .null) (P16 : Exa Z h0 ra10 ss1) (P17 : Fld Z h0 ra10 ss1 ss21 "I" (.int (0 : Int32))) (P18 : Arv Z Z.heap ra2 ca12 (.object ss4) (0 : Int32) [] .null) (P19 : n0 ≤ ra10) (P20 : Fld Z h0 ra4 ss0 ss9 "I" (.int (-1 : Int32))) (P21 : Fld Z h0 ra4 ss0 ss11 "I" (.int (-1 : Int32))) (P22 : Fld Z h0 ra10 ss1 ss13 "I" (.int (0 : Int32))) (P23 : ra4 ≠ ra10) (P24 : ra6 ≠ ra10) (P25 : ra7 ≠ ra10) (P26 : ra8 ≠ ra10) (P27 : ra9 ≠ ra10) (P28 : Fld Z h0 ra10 ss1 ss3 "I" (.int (1 : Int32))) (P29 : Fld Z h0 ra10 ss1 ss15 ss16 (.ref ra6)) (P30 : Fld Z h0 ra4 ss0 ss17 "I" (.int (0 : Int32))) (P31 : Fld Z h0 ra10 ss1 ss17 "I" (.int (0 : Int32))) (P32 : n0 ≤ ra4) (P33 : ra1 ≠ ra4) (P34 : ra1 ≠ ra10) : OwnM l yy23 (.code yy23 k22_ 4 (some (.object "java/util/List"))) ⟨7, 3, 17, 93⟩ #[(.ref ra1)] Z h0 (Q_rm22_26 Z ra1 ra2 ra3 ra4 ra6 ra7 ra8 ra9 ra10 ca5 ca11 ca12 h0 n0) := by
  refine own_open [ra4, ra10] [(ra10, some (sl12 Z)), (ra10, some (sl9 Z)), (ra4, some (sl1 Z)), (ra4, some (sl6 Z)), (ra4, some (sl2 Z)), (ra10, some (sl11 Z))] #[.val (.ref ra1), .unset, .unset, .unset] (plainFor_of_name pn_5) I0 ?_
  intro p e s m below meth c T b S0
  refine gNew b S0 d22_0 (W 206 rfl) (W 22 rfl) (W 23 rfl) (own_le rfl) (own_le rfl) 3 rfl fun T1 h1 b1 g1 E1 A1 D1 S1 => ?_
  refine gDup b S1 d22_3 rfl 4 rfl ?_
  refine cN b S1 d22_4 (W 207 rfl) (W 25 rfl) (W 23 rfl) (W 26 rfl) (rm5_4 W S1.i A1 (own_dI @D1 (.inl (W 41 rfl)) pf2) (S0.ge g1) P0 (own_dN @D1 (.inl (W 44 rfl)) pf3)) rfl (by decide) (lenOf pd_0 rfl) rfl [(.ref b1)] rfl 1 (own_le rfl) rfl 7 rfl fun T2 L2 v2 X2 q2 => ?_
  obtain ⟨rfl, N2q, K2q, KF2q, R2_0, R2_1⟩ := q2
  have S2 := S1.call X2 N2q K2q KF2q (allS (.inr (S0.sz g1)) all0) (fallS (.inr (.inr (S0.sz g1))) (fallS (.inr (.inr (S0.sz g1))) fall0)) (allS (S0.ge g1) all0)
  refine gRn ?_
  refine gAs b S2 d22_7 rfl #[.val (.ref ra1), .val (.ref b1), .unset, .unset] rfl 8 rfl ?_
  refine gAl b S2 d22_8 rfl rfl 9 rfl ?_
  have x3 := (nL (tL P1.lt g1))
  have f4 := ((P2.ext E1).keep K2q (ninS x3 nin0))
  refine cI (xi := yy61) b S2 d22_9 (W 208 rfl) (W 209 rfl) (fun hZ => mvT hZ (W 210 rfl)) (W 211 rfl) (W 212 rfl) (W 213 rfl) (W 214 rfl) (W 98 rfl) (W 23 rfl) (W 215 rfl) (rm23_27 W S2.i f4) ((P1.ext E1).keep K2q) (by decide) (lenOf pd_16 rfl) rfl [] rfl 0 (own_le rfl) rfl 14 rfl fun T5 L5 v5 X5 q5 => ?_
  obtain ⟨nw1_5, rfl, N5q, K5q, KF5q, z5_nw1, R5_0, R5_1, R5_2, R5_3, R5_4⟩ := q5
  have S5 := S2.call X5 N5q K5q KF5q all0 fall0 all0
  refine gRv ?_
  refine gAs b S5 d22_14 rfl #[.val (.ref ra1), .val (.ref b1), .val (.ref nw1_5), .unset] rfl 15 rfl ?_
  refine gAl b S5 d22_15 rfl rfl 16 rfl ?_
  have f6 := (((P3.ext E1).keep K2q (ninS x3 nin0)).keep K5q nin0)
  refine cI (xi := yy56) b S5 d22_16 (W 231 rfl) (W 232 rfl) (fun hZ => mvT hZ (W 233 rfl)) (W 234 rfl) (W 235 rfl) (W 236 rfl) (W 237 rfl) (W 238 rfl) (W 218 rfl) (W 239 rfl) (rm25_29 W S5.i R5_1 R5_2 f6) R5_0 (by decide) (lenOf pd_11 rfl) rfl [] rfl 0 (own_le rfl) rfl 21 rfl fun T7 L7 v7 X7 q7 => ?_
  obtain ⟨rfl, N7q, e7⟩ := q7
  have S7 := S5.same X7 N7q e7
  refine gRv ?_
  refine gIfN b S7 d22_21 rfl 24 rfl ?_
  refine gAl b S7 d22_24 rfl rfl 25 rfl ?_
  have f8 := (((P4.ext E1).keep K2q (ninS x3 nin0)).keep K5q nin0)
  have x9 := (nL (tL P5.lt g1))
  have f10 := (((P5.ext E1).keep K2q (ninS x9 nin0)).keep K5q nin0)
  have x11 := (nL (tL (tL (tL P5.lt E1.1) K2q.1) z5_nw1))
  refine cI (xi := yy57) b S7 d22_25 (W 243 rfl) (W 244 rfl) (fun hZ => mvT hZ (W 245 rfl)) (W 246 rfl) (W 247 rfl) (W 248 rfl) (W 249 rfl) (W 238 rfl) (W 218 rfl) (W 250 rfl) (rm26_30 W S7.i R5_0 R5_2 (f4.keep K5q nin0) R5_4 R5_1 f6 f8 f10 (S2.ge z5_nw1) R5_3 x11) R5_0 (by decide) (lenOf pd_17 rfl) rfl [] rfl 0 (own_le rfl) rfl 30 rfl fun T12 L12 v12 X12 q12 => ?_
  obtain ⟨rfl, N12q, K12q, KF12q, R12_0, R12_1⟩ := q12
  have S12 := S7.call X12 N12q K12q KF12q (allS (.inr (S2.sz z5_nw1)) all0) (fallS (.inr (.inr (S2.sz z5_nw1))) (fallS (.inr (.inr (S2.sz z5_nw1))) fall0)) (allS (S2.ge z5_nw1) all0)
  refine gRv ?_
  have f13 := ((((P6.ext E1).keep K2q).keep K5q).keep K12q)
  refine gCc b S12 d22_30 (W 257 rfl) (Ins.self f13) 33 rfl fun T14 S14 => ?_
  refine gAs b S14 d22_33 rfl #[.val (.ref ra1), .val (.ref b1), .val (.ref nw1_5), .val (.ref ra4)] rfl 34 rfl ?_
  refine gAl b S14 d22_34 rfl rfl 35 rfl ?_
  refine gAl b S14 d22_35 rfl rfl 36 rfl ?_
  have x15 := (nL (tL P6.lt g1))
  have x16 := (nL (tL (tL (tL P6.lt E1.1) K2q.1) z5_nw1))
  have f17 := ((((P7.ext E1).keep K2q (ninS x15 nin0)).keep K5q nin0).keep K12q (ninS x16 nin0))
  have x18 := (nL (tL P8.lt g1))
  have x19 := (nL (tL (tL (tL P8.lt E1.1) K2q.1) z5_nw1))
  have f20 := ((((P8.ext E1).keep K2q (ninS x18 nin0)).keep K5q nin0).keep K12q (ninS x19 nin0))
  have f21 := ((((P9.ext E1).keep K2q (ninS x15 nin0)).keep K5q nin0).keep K12q (ninS x16 nin0))
  have f22 := ((((P10.ext E1).keep K2q).keep K5q).keep K12q)
  have x23 := (nL (tL P10.lt g1))
  have x24 := (nL (tL (tL (tL P10.lt E1.1) K2q.1) z5_nw1))
  have f25 := ((((P11.ext E1).keep K2q (ninS x23 nin0)).keep K5q nin0).keep K12q (ninS x24 nin0))
  have f26 := ((((P12.ext E1).keep K2q).keep K5q).keep K12q)
  have x27 := (nL (tL P12.lt g1))
  have x28 := (nL (tL (tL (tL P12.lt E1.1) K2q.1) z5_nw1))
  have f29 := ((((P13.ext E1).keep K2q (ninS x27 nin0)).keep K5q nin0).keep K12q (ninS x28 nin0))
  have f30 := ((((P14.ext E1).keep K2q (ninS x27 nin0)).keep K5q nin0).keep K12q (ninS x28 nin0))
  have x31 := (nL (tL P15.lt g1))
  have x32 := (nL (tL (tL (tL P15.lt E1.1) K2q.1) z5_nw1))
  have f33 := ((((P15.ext E1).keep K2q (ninS x31 nin0)).keep K5q nin0).keep K12q (ninS x32 nin0))
  have f34 := ((((P16.ext E1).keep K2q).keep K5q).keep K12q)
  have x35 := (nL (tL P16.lt g1))
  have x36 := (nL (tL (tL (tL P16.lt E1.1) K2q.1) z5_nw1))
  have f37 := ((((P17.ext E1).keep K2q (ninS x35 nin0)).keep K5q nin0).keep K12q (ninS x36 nin0))
  have f38 := (((A1.keep K2q).keep K5q).keep K12q)
  have x39 := (nL (tL (tL A1.lt K2q.1) z5_nw1))
  have f40 := ((R2_0.keep K5q nin0).keep K12q (ninS x39 nin0))
  have f41 := ((R2_1.keep K5q nin0).keep K12q (ninS x39 nin0))
  have f42 := ((((own_dI @D1 (.inl (W 103 rfl)) pf2).kf K2q KF2q (nofB (sn5 W) (nofB (sn4 W) nof0))).keep K5q nin0).keep K12q (ninS x39 nin0))
  have f43 := ((((P20.ext E1).keep K2q (ninS x15 nin0)).keep K5q nin0).keep K12q (ninS x16 nin0))
  have f44 := ((((P21.ext E1).keep K2q (ninS x15 nin0)).keep K5q nin0).keep K12q (ninS x16 nin0))
  have f45 := ((((P22.ext E1).keep K2q (ninS x35 nin0)).keep K5q nin0).keep K12q (ninS x36 nin0))
  have f46 := ((((P28.ext E1).keep K2q (ninS x35 nin0)).keep K5q nin0).keep K12q (ninS x36 nin0))
  have f47 := ((((P29.ext E1).keep K2q (ninS x35 nin0)).keep K5q nin0).keep K12q (ninS x36 nin0))
  have f48 := ((((P30.ext E1).keep K2q (ninS x15 nin0)).keep K5q nin0).keep K12q (ninS x16 nin0))
  have f49 := ((((P31.ext E1).keep K2q (ninS x35 nin0)).keep K5q nin0).keep K12q (ninS x36 nin0))
  refine cS b S14 d22_36 (W 259 rfl) (W 260 rfl) (W 9 rfl) (W 261 rfl) (rm28_32 W S14.i f13 f17 f20 f21 f22 f25 f26 f29 f30 f33 f34 f37 f38 f40 (S0.ge g1) f41 f42 P18 P0 x35 P19 f43 f44 f45 P23 P24 P25 P26 P27 f46 f47 f48 f49 P32 x15 x18 x23 x27 x31) (by decide) (lenOf pd_22 rfl) rfl [] rfl 0 (own_le rfl) rfl 39 rfl fun T50 L50 v50 X50 q50 => ?_
  obtain ⟨nw1_50, kw1_50, rfl, N50q, K50q, KF50q, z50_nw1, R50_0, R50_1, R50_2, R50_3, R50_4, R50_5, R50_6, R50_7, R50_8, R50_9, R50_10⟩ := q50
  have S50 := S14.call X50 N50q K50q KF50q (allS (.inr (S0.sz g1)) (allS (.inl (mI 1 rfl)) (allS (.inl (mI 0 rfl)) all0))) (fallS (.inr (.inr (S0.sz g1))) (fallS (.inr (.inr (S0.sz g1))) (fallS (.inr (.inr (S0.sz g1))) (fallS (.inl (mI 5 rfl)) (fallS (.inl (mI 4 rfl)) (fallS (.inl (mI 3 rfl)) (fallS (.inl (mI 2 rfl)) (fallS (.inl (mI 1 rfl)) (fallS (.inl (mI 0 rfl)) fall0))))))))) (allS (S0.ge g1) (allS P19 (allS P32 all0)))
  refine gRn ?_
  refine gGoto b S50 d22_39 15 (by decide) rfl ?_
  refine gAl b S50 d22_15 rfl rfl 16 rfl ?_
  have f51 := (R12_0.keep K50q (ninS (nS x39) (ninS (nS x36) (ninS (nS x16) nin0))))
  have f52 := ((R5_2.kf K12q KF12q (nofB (sn119 W) (nofB (sn103 W) nof0))).keep K50q (ninS (nS x39) (ninS (nS x36) (ninS (nS x16) nin0))))
  have x53 := (nL (tL (tL (tL P1.lt E1.1) K2q.1) z5_nw1))
  have f54 := ((f6.keep K12q (ninS x53 nin0)).keep K50q (ninS x3 (ninS P34 (ninS P33 nin0))))
  refine cI (xi := yy56) b S50 d22_16 (W 231 rfl) (W 232 rfl) (fun hZ => mvT hZ (W 233 rfl)) (W 234 rfl) (W 235 rfl) (W 236 rfl) (W 237 rfl) (W 238 rfl) (W 218 rfl) (W 239 rfl) (rm25_42 W S50.i f51 f52 f54) ((R5_0.keep K12q).keep K50q) (by decide) (lenOf pd_11 rfl) rfl [] rfl 0 (own_le rfl) rfl 21 rfl fun T55 L55 v55 X55 q55 => ?_
  obtain ⟨rfl, N55q, e55⟩ := q55
  have S55 := S50.same X55 N55q e55
  refine gRv ?_
  refine gIfY b S55 d22_21 rfl 42 (by decide) rfl ?_
  refine gAl b S55 d22_42 rfl rfl 43 rfl ?_
  have x56 := (nS (nL (tL (tL (tL (tL A1.lt K2q.1) K5q.1) K12q.1) z50_nw1)))
  exact gRetA b S55 d22_43 rfl rfl rfl (own_le rfl) (own_le rfl) ⟨b1, nw1_50, kw1_50, rfl, S55.f, S55.k, S55.kf, (S0.sz g1), (S14.sz z50_nw1), R50_8, R50_7, R50_6, R50_5, R50_4, R50_3, (f38.keep K50q), R50_0, R50_1, R50_2, R50_9, R50_10, x56⟩
def Q_rm38_44 (Z : State) (ra1 ra2 : Addr) (h0 : Heap) (n0 : Nat) (v : Option Value) (h : Heap) (L : List Loc) : Prop := v = some (.ref ra2) ∧ Fr n0 L ∧ h = h0
theorem rm38_44 (W : Wd a0 Z) (I0 : IO Z n0 h0) {ra1 ra2 : Addr} (P0 : Fld Z h0 ra1 ss1 "kind" ss27 (.ref ra2)) : OwnM l yy30 (.code yy30 k38_ 1 (some (.object ss4))) ⟨0, 0, 0, 0⟩ #[(.ref ra1)] Z h0 (Q_rm38_44 Z ra1 ra2 h0 n0) := by
  refine own_open [] [] #[.val (.ref ra1)] (plainFor_of_name pn_6) I0 ?_
  intro p e s m below meth c T b S0
  refine gAl b S0 d38_0 rfl rfl 1 rfl ?_
  refine gGf (host := "") b S0 d38_1 (.inl (W 82 rfl)) Via.refl P0 4 rfl fun T1 S1 => ?_
  exact gRetA b S1 d38_4 rfl rfl rfl (own_le rfl) (own_le rfl) ⟨rfl, S1.f, rfl⟩
def Q_rm30_47 (Z : State) (ra1 : Addr) (h0 : Heap) (n0 : Nat) (v : Option Value) (h : Heap) (L : List Loc) : Prop := v = some .null ∧ Fr n0 L ∧ h = h0
theorem rm30_47 (W : Wd a0 Z) (I0 : IO Z n0 h0) {ra1 : Addr}  : OwnM l yy35 (.code yy35 k30_ 2 (some (.object ss4))) ⟨0, 0, 0, 0⟩ #[(.ref ra1), (.int (-1 : Int32))] Z h0 (Q_rm30_47 Z ra1 h0 n0) := by
  refine own_open [] [] #[.val (.ref ra1), .val (.int (-1 : Int32))] (plainFor_of_name pn_4) I0 ?_
  intro p e s m below meth c T b S0
  refine gIl b S0 d30_0 rfl 1 rfl ?_
  refine gIc b S0 d30_1 (-1) rfl 2 rfl ?_
  refine gIcN b S0 d30_2 rfl 5 rfl ?_
  refine gNull b S0 d30_5 6 rfl ?_
  refine gGoto b S0 d30_6 19 (by decide) rfl ?_
  exact gRetA b S0 d30_19 rfl rfl rfl (own_le rfl) (own_le rfl) ⟨rfl, S0.f, rfl⟩
def Q_rm40_46 (Z : State) (ra1 ra2 : Addr) (h0 : Heap) (n0 : Nat) (v : Option Value) (h : Heap) (L : List Loc) : Prop := v = some .null ∧ Fr n0 L ∧ h = h0
theorem rm40_46 (W : Wd a0 Z) (I0 : IO Z n0 h0) {ra1 ra2 : Addr} (P0 : Fld Z h0 ra1 ss8 ss22 ss18 (.ref ra2)) (P1 : Fld Z h0 ra1 ss8 ss24 "I" (.int (-1 : Int32))) (P2 : Exa Z h0 ra2 ss10) : OwnM l yy18 (.code yy18 k40_ 1 (some (.object ss1))) ⟨1, 0, 0, 13⟩ #[(.ref ra1)] Z h0 (Q_rm40_46 Z ra1 ra2 h0 n0) := by
  refine own_open [] [] #[.val (.ref ra1)] (plainFor_of_name pn_5) I0 ?_
  intro p e s m below meth c T b S0
  refine gAl b S0 d40_0 rfl rfl 1 rfl ?_
  refine gGf (host := "") b S0 d40_1 (.inl (W 52 rfl)) Via.refl P0 4 rfl fun T1 S1 => ?_
  refine gAl b S1 d40_4 rfl rfl 5 rfl ?_
  refine gGf (host := "") b S1 d40_5 (.inl (W 54 rfl)) Via.refl P1 8 rfl fun T2 S2 => ?_
  refine cV b S2 d40_8 (W 306 rfl) (W 270 rfl) (W 272 rfl) (W 271 rfl) (W 16 rfl) (W 273 rfl) (rm30_47 W S2.i) P2 (by decide) (lenOf pd_19 rfl) rfl [] rfl 0 (own_le rfl) rfl 11 rfl fun T3 L3 v3 X3 q3 => ?_
  obtain ⟨rfl, N3q, e3⟩ := q3
  have S3 := S2.same X3 N3q e3
  refine gRv ?_
  refine gCcN b S3 d40_11 14 rfl ?_
  exact gRetA b S3 d40_14 rfl rfl rfl (own_le rfl) (own_le rfl) ⟨rfl, S3.f, rfl⟩
def Q_rm41_48 (Z : State) (ra1 : Addr) (h0 : Heap) (n0 : Nat) (v : Option Value) (h : Heap) (L : List Loc) : Prop := v = some (.int (1 : Int32)) ∧ Fr n0 L ∧ h = h0
theorem rm41_48 (W : Wd a0 Z) (I0 : IO Z n0 h0) {ra1 : Addr} (P0 : Fld Z h0 ra1 ss1 ss21 "I" (.int (1 : Int32))) : OwnM l yy31 (.code yy31 k41_ 1 (some .int)) ⟨0, 0, 0, 0⟩ #[(.ref ra1)] Z h0 (Q_rm41_48 Z ra1 h0 n0) := by
  refine own_open [] [] #[.val (.ref ra1)] (plainFor_of_name pn_6) I0 ?_
  intro p e s m below meth c T b S0
  refine gAl b S0 d41_0 rfl rfl 1 rfl ?_
  refine gGf (host := "") b S0 d41_1 (.inl (W 340 rfl)) Via.refl P0 4 rfl fun T1 S1 => ?_
  exact gRetI b S1 d41_4 (own_le rfl) (own_le rfl) ⟨rfl, S1.f, rfl⟩
def Q_rm43_50 (Z : State) (ra1 ra2 : Addr) (h0 : Heap) (n0 : Nat) (v : Option Value) (h : Heap) (L : List Loc) : Prop := v = some .null ∧ Fr n0 L ∧ h = h0
theorem rm43_50 (W : Wd a0 Z) (I0 : IO Z n0 h0) {ra1 ra2 : Addr} (P0 : Fld Z h0 ra1 ss8 ss22 ss18 (.ref ra2)) (P1 : Fld Z h0 ra1 ss8 "last" "I" (.int (-1 : Int32))) (P2 : Exa Z h0 ra2 ss10) : OwnM l yy20 (.code yy20 k43_ 1 (some (.object ss1))) ⟨1, 0, 0, 13⟩ #[(.ref ra1)] Z h0 (Q_rm43_50 Z ra1 ra2 h0 n0) := by
  refine own_open [] [] #[.val (.ref ra1)] (plainFor_of_name pn_5) I0 ?_
  intro p e s m below meth c T b S0
  refine gAl b S0 d43_0 rfl rfl 1 rfl ?_
  refine gGf (host := "") b S0 d43_1 (.inl (W 52 rfl)) Via.refl P0 4 rfl fun T1 S1 => ?_
  refine gAl b S1 d43_4 rfl rfl 5 rfl ?_
  refine gGf (host := "") b S1 d43_5 (.inl (W 56 rfl)) Via.refl P1 8 rfl fun T2 S2 => ?_
  refine cV b S2 d43_8 (W 306 rfl) (W 270 rfl) (W 272 rfl) (W 271 rfl) (W 16 rfl) (W 273 rfl) (rm30_47 W S2.i) P2 (by decide) (lenOf pd_19 rfl) rfl [] rfl 0 (own_le rfl) rfl 11 rfl fun T3 L3 v3 X3 q3 => ?_
  obtain ⟨rfl, N3q, e3⟩ := q3
  have S3 := S2.same X3 N3q e3
  refine gRv ?_
  refine gCcN b S3 d43_11 14 rfl ?_
  exact gRetA b S3 d43_14 rfl rfl rfl (own_le rfl) (own_le rfl) ⟨rfl, S3.f, rfl⟩
def Q_rm12_55 (Z : State) (ra1 ra2 ra3 ra4 : Addr) (ca5 : ClassId) (h0 : Heap) (n0 : Nat) (v : Option Value) (h : Heap) (L : List Loc) : Prop := v = none ∧ Fr n0 L ∧ Keep h0 h [ra3, ra1] ∧ KeepF h0 h [(ra3, none), (ra1, some (sl17 Z))] ∧ Arv Z h ra3 ca5 (.object ss4) (10 : Int32) [(.ref ra4), (.ref ra2), .null, .null, .null, .null, .null, .null, .null, .null] .null ∧ Fld Z h ra1 ss2 ss3 "I" (.int (2 : Int32))
theorem rm12_55 (W : Wd a0 Z) (I0 : IO Z n0 h0) {ra1 ra2 ra3 ra4 : Addr} {ca5 : ClassId} (P0 : Arv Z h0 ra3 ca5 (.object ss4) (10 : Int32) [(.ref ra4), .null, .null, .null, .null, .null, .null, .null, .null, .null] .null) (P1 : Ovr Z ca5 ss4) (P2 : Exa Z h0 ra2 ss1) (P3 : n0 ≤ ra3) (P4 : Exa Z h0 ra1 ss2) (P5 : Fld Z h0 ra1 ss2 ss3 "I" (.int (1 : Int32))) (P6 : ra1 ≠ ra3) (P7 : n0 ≤ ra1) : OwnM l yy44 (.code yy44 k12_ 4 none) ⟨0, 0, 0, 0⟩ #[(.ref ra1), (.ref ra2), (.ref ra3), (.int (1 : Int32))] Z h0 (Q_rm12_55 Z ra1 ra2 ra3 ra4 ca5 h0 n0) := by
  refine own_open [ra3, ra1] [(ra3, none), (ra1, some (sl17 Z))] #[.val (.ref ra1), .val (.ref ra2), .val (.ref ra3), .val (.int (1 : Int32))] (plainFor_of_name pn_3) I0 ?_
  intro p e s m below meth c T b S0
  refine gIl b S0 d12_0 rfl 1 rfl ?_
  refine gAl b S0 d12_1 rfl rfl 2 rfl ?_
  refine gLen b S0 d12_2 P0 3 rfl ?_
  refine gIcY b S0 d12_3 rfl 11 (by decide) rfl ?_
  refine gAl b S0 d12_11 rfl rfl 12 rfl ?_
  refine gIl b S0 d12_12 rfl 13 rfl ?_
  refine gAl b S0 d12_13 rfl rfl 14 rfl ?_
  refine gAast b S0 d12_14 P0 P1 (Ins.of_exa P2 (W 125 rfl)) (by decide) (by decide) 1 rfl (own_le rfl) P3 (.inl ⟨mI 0 rfl, mI 0 rfl⟩) [(.ref ra4), (.ref ra2), .null, .null, .null, .null, .null, .null, .null, .null] rfl 15 rfl fun T1 h1 W1 V1 S1 => ?_
  refine gAl b S1 d12_15 rfl rfl 16 rfl ?_
  refine gIl b S1 d12_16 rfl 17 rfl ?_
  refine gIc b S1 d12_17 1 rfl 18 rfl ?_
  refine gAdd b S1 d12_18 2 rfl 19 rfl ?_
  refine gPf (host := "") b S1 .int d12_19 (.inl (W 102 rfl)) Via.refl (P5.other W1 (Or.inl P6)) (P4.wr W1) (.inl (W 103 rfl)) (W 22 rfl) pf2 rfl rfl P7 (.inl ⟨mI 1 rfl, mI 1 rfl⟩) 22 rfl fun T2 h2 W2 F2 S2 => ?_
  exact gRetV b S2 d12_22 (own_le rfl) (own_le rfl) ⟨rfl, S2.f, S2.k, S2.kf, (V1.other W2 (nS P6)), F2⟩
def Q_rm11_54 (Z : State) (ra1 ra2 ra3 ra4 : Addr) (ca5 : ClassId) (h0 : Heap) (n0 : Nat) (v : Option Value) (h : Heap) (L : List Loc) : Prop := v = some (.int (1 : Int32)) ∧ Fr n0 L ∧ Keep h0 h [ra1, ra3] ∧ KeepF h0 h [(ra1, some (sl23 Z)), (ra1, some (sl17 Z)), (ra3, none)] ∧ Fld Z h ra1 ss5 ss6 "I" (.int (2 : Int32)) ∧ Fld Z h ra1 ss2 ss3 "I" (.int (2 : Int32)) ∧ Arv Z h ra3 ca5 (.object ss4) (10 : Int32) [(.ref ra4), (.ref ra2), .null, .null, .null, .null, .null, .null, .null, .null] .null
theorem rm11_54 (W : Wd a0 Z) (I0 : IO Z n0 h0) {ra1 ra2 ra3 ra4 : Addr} {ca5 : ClassId} (P0 : Fld Z h0 ra1 ss5 ss6 "I" (.int (1 : Int32))) (P1 : Exa Z h0 ra1 ss2) (P2 : n0 ≤ ra1) (P3 : Fld Z h0 ra1 ss2 ss12 ss7 (.ref ra3)) (P4 : Fld Z h0 ra1 ss2 ss3 "I" (.int (1 : Int32))) (P5 : Arv Z h0 ra3 ca5 (.object ss4) (10 : Int32) [(.ref ra4), .null, .null, .null, .null, .null, .null, .null, .null, .null] .null) (P6 : Ovr Z ca5 ss4) (P7 : Exa Z h0 ra2 ss1) (P8 : n0 ≤ ra3) (P9 : ra1 ≠ ra3) : OwnM l yy43 (.code yy43 k11_ 2 (some .boolean)) ⟨1, 0, 0, 15⟩ #[(.ref ra1), (.ref ra2)] Z h0 (Q_rm11_54 Z ra1 ra2 ra3 ra4 ca5 h0 n0) := by
  refine own_open [ra1, ra3] [(ra1, some (sl23 Z)), (ra1, some (sl17 Z)), (ra3, none)] #[.val (.ref ra1), .val (.ref ra2)] (plainFor_of_name pn_3) I0 ?_
  intro p e s m below meth c T b S0
  refine gAl b S0 d11_0 rfl rfl 1 rfl ?_
  refine gDup b S0 d11_1 rfl 2 rfl ?_
  refine gGf (host := "") b S0 d11_2 (.inl (W 100 rfl)) (Via.of (W 101 rfl)) P0 5 rfl fun T1 S1 => ?_
  refine gIc b S1 d11_5 1 rfl 6 rfl ?_
  refine gAdd b S1 d11_6 2 rfl 7 rfl ?_
  refine gPf (host := "") b S1 .int d11_7 (.inl (W 100 rfl)) (Via.of (W 101 rfl)) P0 P1 (.inl (W 41 rfl)) (W 22 rfl) pf2 rfl rfl P2 (.inl ⟨mI 0 rfl, mI 0 rfl⟩) 10 rfl fun T2 h2 W2 F2 S2 => ?_
  refine gAl b S2 d11_10 rfl rfl 11 rfl ?_
  refine gAl b S2 d11_11 rfl rfl 12 rfl ?_
  refine gAl b S2 d11_12 rfl rfl 13 rfl ?_
  refine gGf (host := "") b S2 d11_13 (.inl (W 43 rfl)) Via.refl (P3.other W2 (.inr (sn0 W))) 16 rfl fun T3 S3 => ?_
  refine gAl b S3 d11_16 rfl rfl 17 rfl ?_
  refine gGf (host := "") b S3 d11_17 (.inl (W 102 rfl)) Via.refl (P4.other W2 (.inr (sn5 W))) 20 rfl fun T4 S4 => ?_
  refine cP b S4 d11_20 (W 104 rfl) (W 105 rfl) (fun hZ => (mvT hZ (W 107 rfl))) (W 106 rfl) (W 23 rfl) (W 108 rfl) (rm12_55 W S4.i (P5.other W2 (nS P9)) P6 (P7.wr W2) P8 (P1.wr W2) (P4.other W2 (.inr (sn5 W))) P9 P2) (P1.wr W2) (by decide) (lenOf pd_5 rfl) rfl [] rfl 0 (own_le rfl) rfl 23 rfl fun T5 L5 v5 X5 q5 => ?_
  obtain ⟨rfl, N5q, K5q, KF5q, R5_0, R5_1⟩ := q5
  have S5 := S4.call X5 N5q K5q KF5q (allS (.inl (mI 1 rfl)) (allS (.inl (mI 0 rfl)) all0)) (fallS (.inl (mI 2 rfl)) (fallS (.inl (mI 1 rfl)) fall0)) (allS P8 (allS P2 all0))
  refine gRn ?_
  refine gIc b S5 d11_23 1 rfl 24 rfl ?_
  have f6 := (F2.kf K5q KF5q (nofA P9 (nofB (sn41 W) nof0)))
  exact gRetZ b S5 d11_24 (own_le rfl) (own_le rfl) ⟨rfl, S5.f, S5.k, S5.kf, f6, R5_1, R5_0⟩
def Q_rm16_56 (Z : State) (ra1 : Addr) (h0 : Heap) (n0 : Nat) (v : Option Value) (h : Heap) (L : List Loc) : Prop := v = some (.int (2 : Int32)) ∧ Fr n0 L ∧ h = h0
theorem rm16_56 (W : Wd a0 Z) (I0 : IO Z n0 h0) {ra1 : Addr} (P0 : Fld Z h0 ra1 ss2 ss3 "I" (.int (2 : Int32))) : OwnM l yy51 (.code yy51 k16_ 1 (some .int)) ⟨0, 0, 0, 0⟩ #[(.ref ra1)] Z h0 (Q_rm16_56 Z ra1 h0 n0) := by
  refine own_open [] [] #[.val (.ref ra1)] (plainFor_of_name pn_3) I0 ?_
  intro p e s m below meth c T b S0
  refine gAl b S0 d16_0 rfl rfl 1 rfl ?_
  refine gGf (host := "") b S0 d16_1 (.inl (W 102 rfl)) Via.refl P0 4 rfl fun T1 S1 => ?_
  exact gRetI b S1 d16_4 (own_le rfl) (own_le rfl) ⟨rfl, S1.f, rfl⟩
def Q_rm10_53 (Z : State) (ra1 ra2 ra3 ra4 ra5 : Addr) (ca6 : ClassId) (h0 : Heap) (n0 : Nat) (v : Option Value) (h : Heap) (L : List Loc) : Prop := v = some (.int (1 : Int32)) ∧ Fr n0 L ∧ Keep h0 h [ra4, ra3] ∧ KeepF h0 h [(ra4, none), (ra3, some (sl17 Z)), (ra3, some (sl23 Z))] ∧ Arv Z h ra4 ca6 (.object ss4) (10 : Int32) [(.ref ra5), (.ref ra2), .null, .null, .null, .null, .null, .null, .null, .null] .null ∧ Fld Z h ra3 ss2 ss3 "I" (.int (2 : Int32)) ∧ Fld Z h ra3 ss5 ss6 "I" (.int (2 : Int32))
theorem rm10_53 (W : Wd a0 Z) (I0 : IO Z n0 h0) {ra1 ra2 ra3 ra4 ra5 : Addr} {ca6 : ClassId} (P0 : Fld Z h0 ra1 ss10 ss26 "I" (.int (0 : Int32))) (P1 : Fld Z h0 ra1 ss10 ss19 ss20 (.ref ra3)) (P2 : Exa Z h0 ra3 ss2) (P3 : Fld Z h0 ra3 ss5 ss6 "I" (.int (1 : Int32))) (P4 : n0 ≤ ra3) (P5 : Fld Z h0 ra3 ss2 ss12 ss7 (.ref ra4)) (P6 : Fld Z h0 ra3 ss2 ss3 "I" (.int (1 : Int32))) (P7 : Arv Z h0 ra4 ca6 (.object ss4) (10 : Int32) [(.ref ra5), .null, .null, .null, .null, .null, .null, .null, .null, .null] .null) (P8 : Ovr Z ca6 ss4) (P9 : Exa Z h0 ra2 ss1) (P10 : n0 ≤ ra4) (P11 : ra3 ≠ ra4) (P12 : ra1 ≠ ra4) (P13 : ra1 ≠ ra3) : OwnM l yy34 (.code yy34 k10_ 3 (some .int)) ⟨2, 0, 0, 28⟩ #[(.ref ra1), (.ref ra2)] Z h0 (Q_rm10_53 Z ra1 ra2 ra3 ra4 ra5 ca6 h0 n0) := by
  refine own_open [ra4, ra3] [(ra4, none), (ra3, some (sl17 Z)), (ra3, some (sl23 Z))] #[.val (.ref ra1), .val (.ref ra2), .unset] (plainFor_of_name pn_4) I0 ?_
  intro p e s m below meth c T b S0
  refine gAl b S0 d10_0 rfl rfl 1 rfl ?_
  refine gGf (host := "") b S0 d10_1 (.inl (W 89 rfl)) Via.refl P0 4 rfl fun T1 S1 => ?_
  refine gIfN b S1 d10_4 rfl 7 rfl ?_
  refine gAl b S1 d10_7 rfl rfl 8 rfl ?_
  refine gGf (host := "") b S1 d10_8 (.inl (W 45 rfl)) Via.refl P1 11 rfl fun T2 S2 => ?_
  refine gAl b S2 d10_11 rfl rfl 12 rfl ?_
  refine cI (xi := yy58) b S2 d10_12 (W 91 rfl) (W 92 rfl) (fun hZ => mvT hZ (W 93 rfl)) (W 94 rfl) (W 95 rfl) (W 96 rfl) (W 97 rfl) (W 98 rfl) (W 23 rfl) (W 99 rfl) (rm11_54 W S2.i P3 P2 P4 P5 P6 P7 P8 P9 P10 P11) P2 (by decide) (lenOf pd_6 rfl) rfl [] rfl 0 (own_le rfl) rfl 17 rfl fun T3 L3 v3 X3 q3 => ?_
  obtain ⟨rfl, N3q, K3q, KF3q, R3_0, R3_1, R3_2⟩ := q3
  have S3 := S2.call X3 N3q K3q KF3q (allS (.inl (mI 1 rfl)) (allS (.inl (mI 0 rfl)) all0)) (fallS (.inl (mI 2 rfl)) (fallS (.inl (mI 1 rfl)) (fallS (.inl (mI 0 rfl)) fall0))) (allS P4 (allS P10 all0))
  refine gRv ?_
  refine gPop b S3 d10_17 rfl 18 rfl ?_
  refine gAl b S3 d10_18 rfl rfl 19 rfl ?_
  have f4 := (P1.keep K3q (ninS P13 (ninS P12 nin0)))
  refine gGf (host := "") b S3 d10_19 (.inl (W 45 rfl)) Via.refl f4 22 rfl fun T5 S5 => ?_
  refine cI (xi := yy62) b S5 d10_22 (W 126 rfl) (W 127 rfl) (fun hZ => mvT hZ (W 128 rfl)) (W 129 rfl) (W 130 rfl) (W 131 rfl) (W 132 rfl) (W 98 rfl) (W 23 rfl) (W 133 rfl) (rm16_56 W S5.i R3_1) (P2.keep K3q) (by decide) (lenOf pd_7 rfl) rfl [] rfl 0 (own_le rfl) rfl 27 rfl fun T6 L6 v6 X6 q6 => ?_
  obtain ⟨rfl, N6q, e6⟩ := q6
  have S6 := S5.same X6 N6q e6
  refine gRv ?_
  refine gIc b S6 d10_27 1 rfl 28 rfl ?_
  refine gSub b S6 d10_28 1 rfl 29 rfl ?_
  exact gRetI b S6 d10_29 (own_le rfl) (own_le rfl) ⟨rfl, S6.f, S6.k, S6.kf, R3_2, R3_1, R3_0⟩
def Q_rm8_52 (Z : State) (ra1 ra2 ra3 ra4 ra5 ra6 : Addr) (ca7 : ClassId) (h0 : Heap) (n0 : Nat) (v : Option Value) (h : Heap) (L : List Loc) : Prop := ∃ nw1 : Addr, v = some (.ref nw1) ∧ Fr n0 L ∧ Keep h0 h [ra4, ra5] ∧ KeepF h0 h [(ra4, some (sl23 Z)), (ra4, some (sl17 Z)), (ra5, none)] ∧ h0.size ≤ nw1 ∧ Fld Z h ra4 ss5 ss6 "I" (.int (2 : Int32)) ∧ Fld Z h ra4 ss2 ss3 "I" (.int (2 : Int32)) ∧ Arv Z h ra5 ca7 (.object ss4) (10 : Int32) [(.ref ra6), (.ref nw1), .null, .null, .null, .null, .null, .null, .null, .null] .null ∧ Exa Z h nw1 ss1 ∧ Fld Z h nw1 ss1 ss17 "I" (.int (1 : Int32)) ∧ Fld Z h nw1 ss1 ss3 "I" (.int (0 : Int32)) ∧ Fld Z h nw1 ss1 ss21 "I" (.int (0 : Int32)) ∧ Fld Z h nw1 ss1 ss13 "I" (.int (-1 : Int32)) ∧ Fld Z h nw1 ss1 ss9 "I" (.int (-1 : Int32)) ∧ Fld Z h nw1 ss1 ss11 "I" (.int (-1 : Int32)) ∧ Fld Z h nw1 ss1 ss15 ss16 (.ref ra1) ∧ Fld Z h nw1 ss1 "kind" ss27 (.ref ra2)
theorem rm8_52 (W : Wd a0 Z) (I0 : IO Z n0 h0) {ra1 ra2 ra3 ra4 ra5 ra6 : Addr} {ca7 : ClassId} (P0 : Fld Z h0 ra1 ss8 ss22 ss18 (.ref ra3)) (P1 : Exa Z h0 ra3 ss10) (P2 : Fld Z h0 ra3 ss10 ss26 "I" (.int (0 : Int32))) (P3 : Fld Z h0 ra3 ss10 ss19 ss20 (.ref ra4)) (P4 : Exa Z h0 ra4 ss2) (P5 : Fld Z h0 ra4 ss5 ss6 "I" (.int (1 : Int32))) (P6 : n0 ≤ ra4) (P7 : Fld Z h0 ra4 ss2 ss12 ss7 (.ref ra5)) (P8 : Fld Z h0 ra4 ss2 ss3 "I" (.int (1 : Int32))) (P9 : Arv Z h0 ra5 ca7 (.object ss4) (10 : Int32) [(.ref ra6), .null, .null, .null, .null, .null, .null, .null, .null, .null] .null) (P10 : Ovr Z ca7 ss4) (P11 : n0 ≤ ra5) (P12 : ra4 ≠ ra5) (P13 : ra3 ≠ ra5) (P14 : ra3 ≠ ra4) : OwnM l yy17 (.code yy17 k8_ 3 (some (.object ss1))) ⟨3, 1, 8, 43⟩ #[(.ref ra1), (.ref ra2)] Z h0 (Q_rm8_52 Z ra1 ra2 ra3 ra4 ra5 ra6 ca7 h0 n0) := by
  refine own_open [ra4, ra5] [(ra4, some (sl23 Z)), (ra4, some (sl17 Z)), (ra5, none)] #[.val (.ref ra1), .val (.ref ra2), .unset] (plainFor_of_name pn_5) I0 ?_
  intro p e s m below meth c T b S0
  refine gNew b S0 d8_0 (W 67 rfl) (W 68 rfl) (W 69 rfl) (own_le rfl) (own_le rfl) 3 rfl fun T1 h1 b1 g1 E1 A1 D1 S1 => ?_
  refine gDup b S1 d8_3 rfl 4 rfl ?_
  refine gAl b S1 d8_4 rfl rfl 5 rfl ?_
  refine gAl b S1 d8_5 rfl rfl 6 rfl ?_
  refine cNR b S1 d8_6 (W 70 rfl) (W 71 rfl) (W 69 rfl) (W 72 rfl) (rm9_8 W S1.i A1 (own_dI @D1 (.inl (W 75 rfl)) pf2) (S0.ge g1) (own_dI @D1 (.inl (W 77 rfl)) pf2) (own_dI @D1 (.inl (W 79 rfl)) pf2) (own_dN @D1 (.inr (W 81 rfl)) pf5) (own_dN @D1 (.inr (W 83 rfl)) pf6)) rfl (by decide) (lenOf pd_1 rfl) rfl [(.ref b1)] rfl 1 (own_le rfl) rfl 9 rfl fun T2 L2 v2 X2 q2 => ?_
  obtain ⟨rfl, N2q, K2q, KF2q, R2_0, R2_1, R2_2, R2_3, R2_4⟩ := q2
  have S2 := S1.call X2 N2q K2q KF2q (allS (.inr (S0.sz g1)) all0) (fallS (.inr (.inr (S0.sz g1))) (fallS (.inr (.inr (S0.sz g1))) (fallS (.inr (.inr (S0.sz g1))) (fallS (.inr (.inr (S0.sz g1))) (fallS (.inr (.inr (S0.sz g1))) fall0))))) (allS (S0.ge g1) all0)
  refine gRn ?_
  refine gAs b S2 d8_9 rfl #[.val (.ref ra1), .val (.ref ra2), .val (.ref b1)] rfl 10 rfl ?_
  refine gAl b S2 d8_10 rfl rfl 11 rfl ?_
  refine gAl b S2 d8_11 rfl rfl 12 rfl ?_
  have x3 := (nL (tL P0.lt g1))
  have f4 := ((P0.ext E1).keep K2q (ninS x3 nin0))
  refine gGf (host := "") b S2 d8_12 (.inl (W 52 rfl)) Via.refl f4 15 rfl fun T5 S5 => ?_
  refine gAl b S5 d8_15 rfl rfl 16 rfl ?_
  have x6 := (nL (tL P1.lt g1))
  have f7 := ((P2.ext E1).keep K2q (ninS x6 nin0))
  have f8 := ((P3.ext E1).keep K2q (ninS x6 nin0))
  have x9 := (nL (tL P4.lt g1))
  have f10 := ((P5.ext E1).keep K2q (ninS x9 nin0))
  have f11 := ((P7.ext E1).keep K2q (ninS x9 nin0))
  have f12 := ((P8.ext E1).keep K2q (ninS x9 nin0))
  have x13 := (nL (tL P9.lt g1))
  have f14 := ((P9.ext E1).keep K2q (ninS x13 nin0))
  refine cV b S5 d8_16 (W 84 rfl) (W 85 rfl) (W 87 rfl) (W 86 rfl) (W 16 rfl) (W 88 rfl) (rm10_53 W S5.i f7 f8 ((P4.ext E1).keep K2q) f10 P6 f11 f12 f14 P10 (A1.keep K2q) P11 P12 P13 P14) ((P1.ext E1).keep K2q) (by decide) (lenOf pd_8 rfl) rfl [(.ref b1)] rfl 1 (own_le rfl) rfl 19 rfl fun T15 L15 v15 X15 q15 => ?_
  obtain ⟨rfl, N15q, K15q, KF15q, R15_0, R15_1, R15_2⟩ := q15
  have S15 := S5.call X15 N15q K15q KF15q (allS (.inl (mI 1 rfl)) (allS (.inl (mI 0 rfl)) all0)) (fallS (.inl (mI 2 rfl)) (fallS (.inl (mI 1 rfl)) (fallS (.inl (mI 0 rfl)) fall0))) (allS P11 (allS P6 all0))
  refine gRv ?_
  have f16 := (((own_dI @D1 (.inl (W 135 rfl)) pf2).kf K2q KF2q (nofB (sn46 W) (nofB (sn45 W) (nofB (sn44 W) (nofB (sn43 W) (nofB (sn42 W) nof0)))))).keep K15q (ninS (nS x13) (ninS (nS x9) nin0)))
  refine gPfR b S15 .int d8_19 (W 134 rfl) Via.refl f16 ((A1.keep K2q).keep K15q) (W 135 rfl) (W 68 rfl) pf2 rfl rfl (S0.ge g1) (.inr (S0.sz g1)) 22 rfl fun T17 h17 W17 F17 S17 => ?_
  refine gAl b S17 d8_22 rfl rfl 23 rfl ?_
  have f18 := (((A1.keep K2q).keep K15q).wr W17)
  have f19 := ((((own_dI @D1 (.inl (W 195 rfl)) pf2).kf K2q KF2q (nofB (sn51 W) (nofB (sn50 W) (nofB (sn49 W) (nofB (sn48 W) (nofB (sn47 W) nof0)))))).keep K15q (ninS (nS x13) (ninS (nS x9) nin0))).other W17 (.inr (sn52 W)))
  have f20 := ((((own_dI @D1 (.inl (W 298 rfl)) pf2).kf K2q KF2q (nofB (sn57 W) (nofB (sn56 W) (nofB (sn55 W) (nofB (sn54 W) (nofB (sn53 W) nof0)))))).keep K15q (ninS (nS x13) (ninS (nS x9) nin0))).other W17 (.inr (sn58 W)))
  have f21 := ((R2_0.keep K15q (ninS (nS x13) (ninS (nS x9) nin0))).other W17 (.inr (sn59 W)))
  have f22 := ((R2_1.keep K15q (ninS (nS x13) (ninS (nS x9) nin0))).other W17 (.inr (sn60 W)))
  have f23 := ((R2_2.keep K15q (ninS (nS x13) (ninS (nS x9) nin0))).other W17 (.inr (sn61 W)))
  have f24 := ((R2_3.keep K15q (ninS (nS x13) (ninS (nS x9) nin0))).other W17 (.inr (sn62 W)))
  have f25 := ((R2_4.keep K15q (ninS (nS x13) (ninS (nS x9) nin0))).other W17 (.inr (sn63 W)))
  exact gRetA b S17 d8_23 rfl rfl rfl (own_le rfl) (own_le rfl) ⟨b1, rfl, S17.f, S17.k, S17.kf, (S0.sz g1), (R15_2.other W17 (Or.inl x9)), (R15_1.other W17 (Or.inl x9)), (R15_0.other W17 x13), f18, F17, f19, f20, f21, f22, f23, f24, f25⟩
def Q_rm44_51 (Z : State) (ra1 ra2 ra3 ra4 ra5 ra6 : Addr) (ca7 : ClassId) (h0 : Heap) (n0 : Nat) (v : Option Value) (h : Heap) (L : List Loc) : Prop := ∃ nw1 : Addr, v = some (.ref nw1) ∧ Fr n0 L ∧ Keep h0 h [ra5, ra4, ra1] ∧ KeepF h0 h [(ra5, none), (ra4, some (sl17 Z)), (ra4, some (sl23 Z)), (ra1, some (sl26 Z)), (ra1, some (sl24 Z))] ∧ h0.size ≤ nw1 ∧ Arv Z h ra5 ca7 (.object ss4) (10 : Int32) [(.ref ra6), (.ref nw1), .null, .null, .null, .null, .null, .null, .null, .null] .null ∧ Fld Z h ra4 ss2 ss3 "I" (.int (2 : Int32)) ∧ Fld Z h ra4 ss5 ss6 "I" (.int (2 : Int32)) ∧ Fld Z h ra1 ss8 ss24 "I" (.int (1 : Int32)) ∧ Fld Z h ra1 ss8 "last" "I" (.int (1 : Int32)) ∧ Exa Z h nw1 ss1 ∧ Fld Z h nw1 ss1 ss17 "I" (.int (1 : Int32)) ∧ Fld Z h nw1 ss1 ss3 "I" (.int (0 : Int32)) ∧ Fld Z h nw1 ss1 ss21 "I" (.int (0 : Int32)) ∧ Fld Z h nw1 ss1 ss13 "I" (.int (-1 : Int32)) ∧ Fld Z h nw1 ss1 ss9 "I" (.int (-1 : Int32)) ∧ Fld Z h nw1 ss1 ss11 "I" (.int (-1 : Int32)) ∧ Fld Z h nw1 ss1 ss15 ss16 (.ref ra1) ∧ Fld Z h nw1 ss1 "kind" ss27 (.ref ra2)
theorem rm44_51 (W : Wd a0 Z) (I0 : IO Z n0 h0) {ra1 ra2 ra3 ra4 ra5 ra6 : Addr} {ca7 : ClassId} (P0 : Exa Z h0 ra1 ss28) (P1 : Fld Z h0 ra1 ss8 ss22 ss18 (.ref ra3)) (P2 : Exa Z h0 ra3 ss10) (P3 : Fld Z h0 ra3 ss10 ss26 "I" (.int (0 : Int32))) (P4 : Fld Z h0 ra3 ss10 ss19 ss20 (.ref ra4)) (P5 : Exa Z h0 ra4 ss2) (P6 : Fld Z h0 ra4 ss5 ss6 "I" (.int (1 : Int32))) (P7 : n0 ≤ ra4) (P8 : Fld Z h0 ra4 ss2 ss12 ss7 (.ref ra5)) (P9 : Fld Z h0 ra4 ss2 ss3 "I" (.int (1 : Int32))) (P10 : Arv Z h0 ra5 ca7 (.object ss4) (10 : Int32) [(.ref ra6), .null, .null, .null, .null, .null, .null, .null, .null, .null] .null) (P11 : Ovr Z ca7 ss4) (P12 : n0 ≤ ra5) (P13 : ra4 ≠ ra5) (P14 : ra3 ≠ ra5) (P15 : ra3 ≠ ra4) (P16 : Fld Z h0 ra1 ss8 ss24 "I" (.int (-1 : Int32))) (P17 : ra1 ≠ ra5) (P18 : ra1 ≠ ra4) (P19 : n0 ≤ ra1) (P20 : Fld Z h0 ra1 ss8 "last" "I" (.int (-1 : Int32))) : OwnM l yy19 (.code yy19 k44_ 4 (some (.object ss1))) ⟨4, 1, 8, 57⟩ #[(.ref ra1), .null, (.ref ra2)] Z h0 (Q_rm44_51 Z ra1 ra2 ra3 ra4 ra5 ra6 ca7 h0 n0) := by
  refine own_open [ra5, ra4, ra1] [(ra5, none), (ra4, some (sl17 Z)), (ra4, some (sl23 Z)), (ra1, some (sl26 Z)), (ra1, some (sl24 Z))] #[.val (.ref ra1), .val .null, .val (.ref ra2), .unset] (plainFor_of_name pn_5) I0 ?_
  intro p e s m below meth c T b S0
  refine gAl b S0 d44_0 rfl rfl 1 rfl ?_
  refine gAl b S0 d44_1 rfl rfl 2 rfl ?_
  refine cV b S0 d44_2 (W 357 rfl) (W 63 rfl) (W 358 rfl) (W 64 rfl) (W 9 rfl) (W 66 rfl) (rm8_52 W S0.i P1 P2 P3 P4 P5 P6 P7 P8 P9 P10 P11 P12 P13 P14 P15) P0 (by decide) (lenOf pd_9 rfl) rfl [] rfl 0 (own_le rfl) rfl 5 rfl fun T1 L1 v1 X1 q1 => ?_
  obtain ⟨nw1_1, rfl, N1q, K1q, KF1q, z1_nw1, R1_0, R1_1, R1_2, R1_3, R1_4, R1_5, R1_6, R1_7, R1_8, R1_9, R1_10, R1_11⟩ := q1
  have S1 := S0.call X1 N1q K1q KF1q (allS (.inl (mI 1 rfl)) (allS (.inl (mI 0 rfl)) all0)) (fallS (.inl (mI 2 rfl)) (fallS (.inl (mI 1 rfl)) (fallS (.inl (mI 0 rfl)) fall0))) (allS P7 (allS P12 all0))
  refine gRv ?_
  refine gAs b S1 d44_5 rfl #[.val (.ref ra1), .val .null, .val (.ref ra2), .val (.ref nw1_1)] rfl 6 rfl ?_
  refine gAl b S1 d44_6 rfl rfl 7 rfl ?_
  refine gAl b S1 d44_7 rfl rfl 8 rfl ?_
  refine gNnN b S1 d44_8 11 rfl ?_
  refine gIc b S1 d44_11 (-1) rfl 12 rfl ?_
  refine gGoto b S1 d44_12 19 (by decide) rfl ?_
  refine gPfR b S1 .int d44_19 (W 359 rfl) Via.refl R1_8 R1_3 (W 77 rfl) (W 68 rfl) pf2 rfl rfl (S0.ge z1_nw1) (.inr (S0.sz z1_nw1)) 22 rfl fun T2 h2 W2 F2 S2 => ?_
  refine gAl b S2 d44_22 rfl rfl 23 rfl ?_
  refine gAl b S2 d44_23 rfl rfl 24 rfl ?_
  refine gNnN b S2 d44_24 27 rfl ?_
  refine gAl b S2 d44_27 rfl rfl 28 rfl ?_
  have x3 := (nL (tL P0.lt z1_nw1))
  have f4 := ((P16.keep K1q (ninS P18 (ninS P17 nin0))).other W2 (Or.inl x3))
  refine gGf (host := "") b S2 d44_28 (.inl (W 54 rfl)) Via.refl f4 31 rfl fun T5 S5 => ?_
  refine gGoto b S5 d44_31 38 (by decide) rfl ?_
  have f6 := (R1_9.other W2 (.inr (sn22 W)))
  refine gPfR b S5 .int d44_38 (W 360 rfl) Via.refl f6 (R1_3.wr W2) (W 79 rfl) (W 68 rfl) pf2 rfl rfl (S0.ge z1_nw1) (.inr (S0.sz z1_nw1)) 41 rfl fun T7 h7 W7 F7 S7 => ?_
  refine gAl b S7 d44_41 rfl rfl 42 rfl ?_
  refine gGfR b S7 d44_42 (W 359 rfl) Via.refl (F2.other W7 (.inr (sn34 W))) 45 rfl fun T8 S8 => ?_
  refine gIc b S8 d44_45 (-1) rfl 46 rfl ?_
  refine gIcN b S8 d44_46 rfl 49 rfl ?_
  refine gAl b S8 d44_49 rfl rfl 50 rfl ?_
  refine gAl b S8 d44_50 rfl rfl 51 rfl ?_
  have f9 := ((R1_4.other W2 (.inr (sn45 W))).other W7 (.inr (sn44 W)))
  refine gGfR b S8 d44_51 (W 134 rfl) Via.refl f9 54 rfl fun T10 S10 => ?_
  refine gPf (host := "") b S10 .int d44_54 (.inl (W 54 rfl)) Via.refl (f4.other W7 (Or.inl x3)) (((P0.keep K1q).wr W2).wr W7) (.inl (W 55 rfl)) (W 1 rfl) pf2 rfl rfl P19 (.inl ⟨mI 2 rfl, mI 3 rfl⟩) 57 rfl fun T11 h11 W11 F11 S11 => ?_
  refine gGoto b S11 d44_57 81 (by decide) rfl ?_
  refine gAl b S11 d44_81 rfl rfl 82 rfl ?_
  have f12 := (F7.other W11 (Or.inl (nS x3)))
  refine gGfR b S11 d44_82 (W 360 rfl) Via.refl f12 85 rfl fun T13 S13 => ?_
  refine gIc b S13 d44_85 (-1) rfl 86 rfl ?_
  refine gIcN b S13 d44_86 rfl 89 rfl ?_
  refine gAl b S13 d44_89 rfl rfl 90 rfl ?_
  refine gAl b S13 d44_90 rfl rfl 91 rfl ?_
  have f14 := (f9.other W11 (Or.inl (nS x3)))
  refine gGfR b S13 d44_91 (W 134 rfl) Via.refl f14 94 rfl fun T15 S15 => ?_
  have f16 := ((((P20.keep K1q (ninS P18 (ninS P17 nin0))).other W2 (Or.inl x3)).other W7 (Or.inl x3)).other W11 (.inr (sn11 W)))
  have f17 := ((((P0.keep K1q).wr W2).wr W7).wr W11)
  refine gPf (host := "") b S15 .int d44_94 (.inl (W 56 rfl)) Via.refl f16 f17 (.inl (W 57 rfl)) (W 1 rfl) pf2 rfl rfl P19 (.inl ⟨mI 2 rfl, mI 4 rfl⟩) 97 rfl fun T18 h18 W18 F18 S18 => ?_
  refine gGoto b S18 d44_97 121 (by decide) rfl ?_
  refine gAl b S18 d44_121 rfl rfl 122 rfl ?_
  have x19 := (nL (tL P10.lt z1_nw1))
  have f20 := ((((R1_2.other W2 x19).other W7 x19).other W11 (nS P17)).other W18 (nS P17))
  have x21 := (nL (tL P5.lt z1_nw1))
  have f22 := ((((R1_1.other W2 (Or.inl x21)).other W7 (Or.inl x21)).other W11 (Or.inl (nS P18))).other W18 (Or.inl (nS P18)))
  have f23 := ((((R1_0.other W2 (Or.inl x21)).other W7 (Or.inl x21)).other W11 (Or.inl (nS P18))).other W18 (Or.inl (nS P18)))
  have f24 := (F11.other W18 (.inr (sn17 W)))
  have f25 := ((((R1_3.wr W2).wr W7).wr W11).wr W18)
  have f26 := (f14.other W18 (Or.inl (nS x3)))
  have f27 := ((((R1_5.other W2 (.inr (sn50 W))).other W7 (.inr (sn49 W))).other W11 (Or.inl (nS x3))).other W18 (Or.inl (nS x3)))
  have f28 := ((((R1_6.other W2 (.inr (sn56 W))).other W7 (.inr (sn55 W))).other W11 (Or.inl (nS x3))).other W18 (Or.inl (nS x3)))
  have f29 := ((((R1_7.other W2 (.inr (sn30 W))).other W7 (.inr (sn31 W))).other W11 (Or.inl (nS x3))).other W18 (Or.inl (nS x3)))
  have f30 := (((F2.other W7 (.inr (sn34 W))).other W11 (Or.inl (nS x3))).other W18 (Or.inl (nS x3)))
  have f31 := (f12.other W18 (Or.inl (nS x3)))
  have f32 := ((((R1_10.other W2 (.inr (sn24 W))).other W7 (.inr (sn25 W))).other W11 (Or.inl (nS x3))).other W18 (Or.inl (nS x3)))
  have f33 := ((((R1_11.other W2 (.inr (sn27 W))).other W7 (.inr (sn28 W))).other W11 (Or.inl (nS x3))).other W18 (Or.inl (nS x3)))
  exact gRetA b S18 d44_122 rfl rfl rfl (own_le rfl) (own_le rfl) ⟨nw1_1, rfl, S18.f, S18.k, S18.kf, (S0.sz z1_nw1), f20, f22, f23, f24, F18, f25, f26, f27, f28, f29, f30, f31, f32, f33⟩
def Q_rm12_61 (Z : State) (ra1 ra2 ra3 ra4 ra5 : Addr) (ca6 : ClassId) (h0 : Heap) (n0 : Nat) (v : Option Value) (h : Heap) (L : List Loc) : Prop := v = none ∧ Fr n0 L ∧ Keep h0 h [ra3, ra1] ∧ KeepF h0 h [(ra3, none), (ra1, some (sl17 Z))] ∧ Arv Z h ra3 ca6 (.object ss4) (10 : Int32) [(.ref ra4), (.ref ra5), (.ref ra2), .null, .null, .null, .null, .null, .null, .null] .null ∧ Fld Z h ra1 ss2 ss3 "I" (.int (3 : Int32))
theorem rm12_61 (W : Wd a0 Z) (I0 : IO Z n0 h0) {ra1 ra2 ra3 ra4 ra5 : Addr} {ca6 : ClassId} (P0 : Arv Z h0 ra3 ca6 (.object ss4) (10 : Int32) [(.ref ra4), (.ref ra5), .null, .null, .null, .null, .null, .null, .null, .null] .null) (P1 : Ovr Z ca6 ss4) (P2 : Exa Z h0 ra2 ss1) (P3 : n0 ≤ ra3) (P4 : Exa Z h0 ra1 ss2) (P5 : Fld Z h0 ra1 ss2 ss3 "I" (.int (2 : Int32))) (P6 : ra1 ≠ ra3) (P7 : n0 ≤ ra1) : OwnM l yy44 (.code yy44 k12_ 4 none) ⟨0, 0, 0, 0⟩ #[(.ref ra1), (.ref ra2), (.ref ra3), (.int (2 : Int32))] Z h0 (Q_rm12_61 Z ra1 ra2 ra3 ra4 ra5 ca6 h0 n0) := by
  refine own_open [ra3, ra1] [(ra3, none), (ra1, some (sl17 Z))] #[.val (.ref ra1), .val (.ref ra2), .val (.ref ra3), .val (.int (2 : Int32))] (plainFor_of_name pn_3) I0 ?_
  intro p e s m below meth c T b S0
  refine gIl b S0 d12_0 rfl 1 rfl ?_
  refine gAl b S0 d12_1 rfl rfl 2 rfl ?_
  refine gLen b S0 d12_2 P0 3 rfl ?_
  refine gIcY b S0 d12_3 rfl 11 (by decide) rfl ?_
  refine gAl b S0 d12_11 rfl rfl 12 rfl ?_
  refine gIl b S0 d12_12 rfl 13 rfl ?_
  refine gAl b S0 d12_13 rfl rfl 14 rfl ?_
  refine gAast b S0 d12_14 P0 P1 (Ins.of_exa P2 (W 125 rfl)) (by decide) (by decide) 2 rfl (own_le rfl) P3 (.inl ⟨mI 0 rfl, mI 0 rfl⟩) [(.ref ra4), (.ref ra5), (.ref ra2), .null, .null, .null, .null, .null, .null, .null] rfl 15 rfl fun T1 h1 W1 V1 S1 => ?_
  refine gAl b S1 d12_15 rfl rfl 16 rfl ?_
  refine gIl b S1 d12_16 rfl 17 rfl ?_
  refine gIc b S1 d12_17 1 rfl 18 rfl ?_
  refine gAdd b S1 d12_18 3 rfl 19 rfl ?_
  refine gPf (host := "") b S1 .int d12_19 (.inl (W 102 rfl)) Via.refl (P5.other W1 (Or.inl P6)) (P4.wr W1) (.inl (W 103 rfl)) (W 22 rfl) pf2 rfl rfl P7 (.inl ⟨mI 1 rfl, mI 1 rfl⟩) 22 rfl fun T2 h2 W2 F2 S2 => ?_
  exact gRetV b S2 d12_22 (own_le rfl) (own_le rfl) ⟨rfl, S2.f, S2.k, S2.kf, (V1.other W2 (nS P6)), F2⟩
def Q_rm11_60 (Z : State) (ra1 ra2 ra3 ra4 ra5 : Addr) (ca6 : ClassId) (h0 : Heap) (n0 : Nat) (v : Option Value) (h : Heap) (L : List Loc) : Prop := v = some (.int (1 : Int32)) ∧ Fr n0 L ∧ Keep h0 h [ra1, ra3] ∧ KeepF h0 h [(ra1, some (sl23 Z)), (ra1, some (sl17 Z)), (ra3, none)] ∧ Fld Z h ra1 ss5 ss6 "I" (.int (3 : Int32)) ∧ Fld Z h ra1 ss2 ss3 "I" (.int (3 : Int32)) ∧ Arv Z h ra3 ca6 (.object ss4) (10 : Int32) [(.ref ra4), (.ref ra5), (.ref ra2), .null, .null, .null, .null, .null, .null, .null] .null
theorem rm11_60 (W : Wd a0 Z) (I0 : IO Z n0 h0) {ra1 ra2 ra3 ra4 ra5 : Addr} {ca6 : ClassId} (P0 : Fld Z h0 ra1 ss5 ss6 "I" (.int (2 : Int32))) (P1 : Exa Z h0 ra1 ss2) (P2 : n0 ≤ ra1) (P3 : Fld Z h0 ra1 ss2 ss12 ss7 (.ref ra3)) (P4 : Fld Z h0 ra1 ss2 ss3 "I" (.int (2 : Int32))) (P5 : Arv Z h0 ra3 ca6 (.object ss4) (10 : Int32) [(.ref ra4), (.ref ra5), .null, .null, .null, .null, .null, .null, .null, .null] .null) (P6 : Ovr Z ca6 ss4) (P7 : Exa Z h0 ra2 ss1) (P8 : n0 ≤ ra3) (P9 : ra1 ≠ ra3) : OwnM l yy43 (.code yy43 k11_ 2 (some .boolean)) ⟨1, 0, 0, 15⟩ #[(.ref ra1), (.ref ra2)] Z h0 (Q_rm11_60 Z ra1 ra2 ra3 ra4 ra5 ca6 h0 n0) := by
  refine own_open [ra1, ra3] [(ra1, some (sl23 Z)), (ra1, some (sl17 Z)), (ra3, none)] #[.val (.ref ra1), .val (.ref ra2)] (plainFor_of_name pn_3) I0 ?_
  intro p e s m below meth c T b S0
  refine gAl b S0 d11_0 rfl rfl 1 rfl ?_
  refine gDup b S0 d11_1 rfl 2 rfl ?_
  refine gGf (host := "") b S0 d11_2 (.inl (W 100 rfl)) (Via.of (W 101 rfl)) P0 5 rfl fun T1 S1 => ?_
  refine gIc b S1 d11_5 1 rfl 6 rfl ?_
  refine gAdd b S1 d11_6 3 rfl 7 rfl ?_
  refine gPf (host := "") b S1 .int d11_7 (.inl (W 100 rfl)) (Via.of (W 101 rfl)) P0 P1 (.inl (W 41 rfl)) (W 22 rfl) pf2 rfl rfl P2 (.inl ⟨mI 0 rfl, mI 0 rfl⟩) 10 rfl fun T2 h2 W2 F2 S2 => ?_
  refine gAl b S2 d11_10 rfl rfl 11 rfl ?_
  refine gAl b S2 d11_11 rfl rfl 12 rfl ?_
  refine gAl b S2 d11_12 rfl rfl 13 rfl ?_
  refine gGf (host := "") b S2 d11_13 (.inl (W 43 rfl)) Via.refl (P3.other W2 (.inr (sn0 W))) 16 rfl fun T3 S3 => ?_
  refine gAl b S3 d11_16 rfl rfl 17 rfl ?_
  refine gGf (host := "") b S3 d11_17 (.inl (W 102 rfl)) Via.refl (P4.other W2 (.inr (sn5 W))) 20 rfl fun T4 S4 => ?_
  refine cP b S4 d11_20 (W 104 rfl) (W 105 rfl) (fun hZ => (mvT hZ (W 107 rfl))) (W 106 rfl) (W 23 rfl) (W 108 rfl) (rm12_61 W S4.i (P5.other W2 (nS P9)) P6 (P7.wr W2) P8 (P1.wr W2) (P4.other W2 (.inr (sn5 W))) P9 P2) (P1.wr W2) (by decide) (lenOf pd_5 rfl) rfl [] rfl 0 (own_le rfl) rfl 23 rfl fun T5 L5 v5 X5 q5 => ?_
  obtain ⟨rfl, N5q, K5q, KF5q, R5_0, R5_1⟩ := q5
  have S5 := S4.call X5 N5q K5q KF5q (allS (.inl (mI 1 rfl)) (allS (.inl (mI 0 rfl)) all0)) (fallS (.inl (mI 2 rfl)) (fallS (.inl (mI 1 rfl)) fall0)) (allS P8 (allS P2 all0))
  refine gRn ?_
  refine gIc b S5 d11_23 1 rfl 24 rfl ?_
  have f6 := (F2.kf K5q KF5q (nofA P9 (nofB (sn41 W) nof0)))
  exact gRetZ b S5 d11_24 (own_le rfl) (own_le rfl) ⟨rfl, S5.f, S5.k, S5.kf, f6, R5_1, R5_0⟩
def Q_rm16_62 (Z : State) (ra1 : Addr) (h0 : Heap) (n0 : Nat) (v : Option Value) (h : Heap) (L : List Loc) : Prop := v = some (.int (3 : Int32)) ∧ Fr n0 L ∧ h = h0
theorem rm16_62 (W : Wd a0 Z) (I0 : IO Z n0 h0) {ra1 : Addr} (P0 : Fld Z h0 ra1 ss2 ss3 "I" (.int (3 : Int32))) : OwnM l yy51 (.code yy51 k16_ 1 (some .int)) ⟨0, 0, 0, 0⟩ #[(.ref ra1)] Z h0 (Q_rm16_62 Z ra1 h0 n0) := by
  refine own_open [] [] #[.val (.ref ra1)] (plainFor_of_name pn_3) I0 ?_
  intro p e s m below meth c T b S0
  refine gAl b S0 d16_0 rfl rfl 1 rfl ?_
  refine gGf (host := "") b S0 d16_1 (.inl (W 102 rfl)) Via.refl P0 4 rfl fun T1 S1 => ?_
  exact gRetI b S1 d16_4 (own_le rfl) (own_le rfl) ⟨rfl, S1.f, rfl⟩
def Q_rm10_59 (Z : State) (ra1 ra2 ra3 ra4 ra5 ra6 : Addr) (ca7 : ClassId) (h0 : Heap) (n0 : Nat) (v : Option Value) (h : Heap) (L : List Loc) : Prop := v = some (.int (2 : Int32)) ∧ Fr n0 L ∧ Keep h0 h [ra4, ra3] ∧ KeepF h0 h [(ra4, none), (ra3, some (sl17 Z)), (ra3, some (sl23 Z))] ∧ Arv Z h ra4 ca7 (.object ss4) (10 : Int32) [(.ref ra5), (.ref ra6), (.ref ra2), .null, .null, .null, .null, .null, .null, .null] .null ∧ Fld Z h ra3 ss2 ss3 "I" (.int (3 : Int32)) ∧ Fld Z h ra3 ss5 ss6 "I" (.int (3 : Int32))
theorem rm10_59 (W : Wd a0 Z) (I0 : IO Z n0 h0) {ra1 ra2 ra3 ra4 ra5 ra6 : Addr} {ca7 : ClassId} (P0 : Fld Z h0 ra1 ss10 ss26 "I" (.int (0 : Int32))) (P1 : Fld Z h0 ra1 ss10 ss19 ss20 (.ref ra3)) (P2 : Exa Z h0 ra3 ss2) (P3 : Fld Z h0 ra3 ss5 ss6 "I" (.int (2 : Int32))) (P4 : n0 ≤ ra3) (P5 : Fld Z h0 ra3 ss2 ss12 ss7 (.ref ra4)) (P6 : Fld Z h0 ra3 ss2 ss3 "I" (.int (2 : Int32))) (P7 : Arv Z h0 ra4 ca7 (.object ss4) (10 : Int32) [(.ref ra5), (.ref ra6), .null, .null, .null, .null, .null, .null, .null, .null] .null) (P8 : Ovr Z ca7 ss4) (P9 : Exa Z h0 ra2 ss1) (P10 : n0 ≤ ra4) (P11 : ra3 ≠ ra4) (P12 : ra1 ≠ ra4) (P13 : ra1 ≠ ra3) : OwnM l yy34 (.code yy34 k10_ 3 (some .int)) ⟨2, 0, 0, 28⟩ #[(.ref ra1), (.ref ra2)] Z h0 (Q_rm10_59 Z ra1 ra2 ra3 ra4 ra5 ra6 ca7 h0 n0) := by
  refine own_open [ra4, ra3] [(ra4, none), (ra3, some (sl17 Z)), (ra3, some (sl23 Z))] #[.val (.ref ra1), .val (.ref ra2), .unset] (plainFor_of_name pn_4) I0 ?_
  intro p e s m below meth c T b S0
  refine gAl b S0 d10_0 rfl rfl 1 rfl ?_
  refine gGf (host := "") b S0 d10_1 (.inl (W 89 rfl)) Via.refl P0 4 rfl fun T1 S1 => ?_
  refine gIfN b S1 d10_4 rfl 7 rfl ?_
  refine gAl b S1 d10_7 rfl rfl 8 rfl ?_
  refine gGf (host := "") b S1 d10_8 (.inl (W 45 rfl)) Via.refl P1 11 rfl fun T2 S2 => ?_
  refine gAl b S2 d10_11 rfl rfl 12 rfl ?_
  refine cI (xi := yy58) b S2 d10_12 (W 91 rfl) (W 92 rfl) (fun hZ => mvT hZ (W 93 rfl)) (W 94 rfl) (W 95 rfl) (W 96 rfl) (W 97 rfl) (W 98 rfl) (W 23 rfl) (W 99 rfl) (rm11_60 W S2.i P3 P2 P4 P5 P6 P7 P8 P9 P10 P11) P2 (by decide) (lenOf pd_6 rfl) rfl [] rfl 0 (own_le rfl) rfl 17 rfl fun T3 L3 v3 X3 q3 => ?_
  obtain ⟨rfl, N3q, K3q, KF3q, R3_0, R3_1, R3_2⟩ := q3
  have S3 := S2.call X3 N3q K3q KF3q (allS (.inl (mI 1 rfl)) (allS (.inl (mI 0 rfl)) all0)) (fallS (.inl (mI 2 rfl)) (fallS (.inl (mI 1 rfl)) (fallS (.inl (mI 0 rfl)) fall0))) (allS P4 (allS P10 all0))
  refine gRv ?_
  refine gPop b S3 d10_17 rfl 18 rfl ?_
  refine gAl b S3 d10_18 rfl rfl 19 rfl ?_
  have f4 := (P1.keep K3q (ninS P13 (ninS P12 nin0)))
  refine gGf (host := "") b S3 d10_19 (.inl (W 45 rfl)) Via.refl f4 22 rfl fun T5 S5 => ?_
  refine cI (xi := yy62) b S5 d10_22 (W 126 rfl) (W 127 rfl) (fun hZ => mvT hZ (W 128 rfl)) (W 129 rfl) (W 130 rfl) (W 131 rfl) (W 132 rfl) (W 98 rfl) (W 23 rfl) (W 133 rfl) (rm16_62 W S5.i R3_1) (P2.keep K3q) (by decide) (lenOf pd_7 rfl) rfl [] rfl 0 (own_le rfl) rfl 27 rfl fun T6 L6 v6 X6 q6 => ?_
  obtain ⟨rfl, N6q, e6⟩ := q6
  have S6 := S5.same X6 N6q e6
  refine gRv ?_
  refine gIc b S6 d10_27 1 rfl 28 rfl ?_
  refine gSub b S6 d10_28 2 rfl 29 rfl ?_
  exact gRetI b S6 d10_29 (own_le rfl) (own_le rfl) ⟨rfl, S6.f, S6.k, S6.kf, R3_2, R3_1, R3_0⟩
def Q_rm8_58 (Z : State) (ra1 ra2 ra3 ra4 ra5 ra6 ra7 : Addr) (ca8 : ClassId) (h0 : Heap) (n0 : Nat) (v : Option Value) (h : Heap) (L : List Loc) : Prop := ∃ nw1 : Addr, v = some (.ref nw1) ∧ Fr n0 L ∧ Keep h0 h [ra4, ra5] ∧ KeepF h0 h [(ra4, some (sl23 Z)), (ra4, some (sl17 Z)), (ra5, none)] ∧ h0.size ≤ nw1 ∧ Fld Z h ra4 ss5 ss6 "I" (.int (3 : Int32)) ∧ Fld Z h ra4 ss2 ss3 "I" (.int (3 : Int32)) ∧ Arv Z h ra5 ca8 (.object ss4) (10 : Int32) [(.ref ra6), (.ref ra7), (.ref nw1), .null, .null, .null, .null, .null, .null, .null] .null ∧ Exa Z h nw1 ss1 ∧ Fld Z h nw1 ss1 ss17 "I" (.int (2 : Int32)) ∧ Fld Z h nw1 ss1 ss3 "I" (.int (0 : Int32)) ∧ Fld Z h nw1 ss1 ss21 "I" (.int (0 : Int32)) ∧ Fld Z h nw1 ss1 ss13 "I" (.int (-1 : Int32)) ∧ Fld Z h nw1 ss1 ss9 "I" (.int (-1 : Int32)) ∧ Fld Z h nw1 ss1 ss11 "I" (.int (-1 : Int32)) ∧ Fld Z h nw1 ss1 ss15 ss16 (.ref ra1) ∧ Fld Z h nw1 ss1 "kind" ss27 (.ref ra2)
theorem rm8_58 (W : Wd a0 Z) (I0 : IO Z n0 h0) {ra1 ra2 ra3 ra4 ra5 ra6 ra7 : Addr} {ca8 : ClassId} (P0 : Fld Z h0 ra1 ss8 ss22 ss18 (.ref ra3)) (P1 : Exa Z h0 ra3 ss10) (P2 : Fld Z h0 ra3 ss10 ss26 "I" (.int (0 : Int32))) (P3 : Fld Z h0 ra3 ss10 ss19 ss20 (.ref ra4)) (P4 : Exa Z h0 ra4 ss2) (P5 : Fld Z h0 ra4 ss5 ss6 "I" (.int (2 : Int32))) (P6 : n0 ≤ ra4) (P7 : Fld Z h0 ra4 ss2 ss12 ss7 (.ref ra5)) (P8 : Fld Z h0 ra4 ss2 ss3 "I" (.int (2 : Int32))) (P9 : Arv Z h0 ra5 ca8 (.object ss4) (10 : Int32) [(.ref ra6), (.ref ra7), .null, .null, .null, .null, .null, .null, .null, .null] .null) (P10 : Ovr Z ca8 ss4) (P11 : n0 ≤ ra5) (P12 : ra4 ≠ ra5) (P13 : ra3 ≠ ra5) (P14 : ra3 ≠ ra4) : OwnM l yy17 (.code yy17 k8_ 3 (some (.object ss1))) ⟨3, 1, 8, 43⟩ #[(.ref ra1), (.ref ra2)] Z h0 (Q_rm8_58 Z ra1 ra2 ra3 ra4 ra5 ra6 ra7 ca8 h0 n0) := by
  refine own_open [ra4, ra5] [(ra4, some (sl23 Z)), (ra4, some (sl17 Z)), (ra5, none)] #[.val (.ref ra1), .val (.ref ra2), .unset] (plainFor_of_name pn_5) I0 ?_
  intro p e s m below meth c T b S0
  refine gNew b S0 d8_0 (W 67 rfl) (W 68 rfl) (W 69 rfl) (own_le rfl) (own_le rfl) 3 rfl fun T1 h1 b1 g1 E1 A1 D1 S1 => ?_
  refine gDup b S1 d8_3 rfl 4 rfl ?_
  refine gAl b S1 d8_4 rfl rfl 5 rfl ?_
  refine gAl b S1 d8_5 rfl rfl 6 rfl ?_
  refine cNR b S1 d8_6 (W 70 rfl) (W 71 rfl) (W 69 rfl) (W 72 rfl) (rm9_8 W S1.i A1 (own_dI @D1 (.inl (W 75 rfl)) pf2) (S0.ge g1) (own_dI @D1 (.inl (W 77 rfl)) pf2) (own_dI @D1 (.inl (W 79 rfl)) pf2) (own_dN @D1 (.inr (W 81 rfl)) pf5) (own_dN @D1 (.inr (W 83 rfl)) pf6)) rfl (by decide) (lenOf pd_1 rfl) rfl [(.ref b1)] rfl 1 (own_le rfl) rfl 9 rfl fun T2 L2 v2 X2 q2 => ?_
  obtain ⟨rfl, N2q, K2q, KF2q, R2_0, R2_1, R2_2, R2_3, R2_4⟩ := q2
  have S2 := S1.call X2 N2q K2q KF2q (allS (.inr (S0.sz g1)) all0) (fallS (.inr (.inr (S0.sz g1))) (fallS (.inr (.inr (S0.sz g1))) (fallS (.inr (.inr (S0.sz g1))) (fallS (.inr (.inr (S0.sz g1))) (fallS (.inr (.inr (S0.sz g1))) fall0))))) (allS (S0.ge g1) all0)
  refine gRn ?_
  refine gAs b S2 d8_9 rfl #[.val (.ref ra1), .val (.ref ra2), .val (.ref b1)] rfl 10 rfl ?_
  refine gAl b S2 d8_10 rfl rfl 11 rfl ?_
  refine gAl b S2 d8_11 rfl rfl 12 rfl ?_
  have x3 := (nL (tL P0.lt g1))
  have f4 := ((P0.ext E1).keep K2q (ninS x3 nin0))
  refine gGf (host := "") b S2 d8_12 (.inl (W 52 rfl)) Via.refl f4 15 rfl fun T5 S5 => ?_
  refine gAl b S5 d8_15 rfl rfl 16 rfl ?_
  have x6 := (nL (tL P1.lt g1))
  have f7 := ((P2.ext E1).keep K2q (ninS x6 nin0))
  have f8 := ((P3.ext E1).keep K2q (ninS x6 nin0))
  have x9 := (nL (tL P4.lt g1))
  have f10 := ((P5.ext E1).keep K2q (ninS x9 nin0))
  have f11 := ((P7.ext E1).keep K2q (ninS x9 nin0))
  have f12 := ((P8.ext E1).keep K2q (ninS x9 nin0))
  have x13 := (nL (tL P9.lt g1))
  have f14 := ((P9.ext E1).keep K2q (ninS x13 nin0))
  refine cV b S5 d8_16 (W 84 rfl) (W 85 rfl) (W 87 rfl) (W 86 rfl) (W 16 rfl) (W 88 rfl) (rm10_59 W S5.i f7 f8 ((P4.ext E1).keep K2q) f10 P6 f11 f12 f14 P10 (A1.keep K2q) P11 P12 P13 P14) ((P1.ext E1).keep K2q) (by decide) (lenOf pd_8 rfl) rfl [(.ref b1)] rfl 1 (own_le rfl) rfl 19 rfl fun T15 L15 v15 X15 q15 => ?_
  obtain ⟨rfl, N15q, K15q, KF15q, R15_0, R15_1, R15_2⟩ := q15
  have S15 := S5.call X15 N15q K15q KF15q (allS (.inl (mI 1 rfl)) (allS (.inl (mI 0 rfl)) all0)) (fallS (.inl (mI 2 rfl)) (fallS (.inl (mI 1 rfl)) (fallS (.inl (mI 0 rfl)) fall0))) (allS P11 (allS P6 all0))
  refine gRv ?_
  have f16 := (((own_dI @D1 (.inl (W 135 rfl)) pf2).kf K2q KF2q (nofB (sn46 W) (nofB (sn45 W) (nofB (sn44 W) (nofB (sn43 W) (nofB (sn42 W) nof0)))))).keep K15q (ninS (nS x13) (ninS (nS x9) nin0)))
  refine gPfR b S15 .int d8_19 (W 134 rfl) Via.refl f16 ((A1.keep K2q).keep K15q) (W 135 rfl) (W 68 rfl) pf2 rfl rfl (S0.ge g1) (.inr (S0.sz g1)) 22 rfl fun T17 h17 W17 F17 S17 => ?_
  refine gAl b S17 d8_22 rfl rfl 23 rfl ?_
  have f18 := (((A1.keep K2q).keep K15q).wr W17)
  have f19 := ((((own_dI @D1 (.inl (W 195 rfl)) pf2).kf K2q KF2q (nofB (sn51 W) (nofB (sn50 W) (nofB (sn49 W) (nofB (sn48 W) (nofB (sn47 W) nof0)))))).keep K15q (ninS (nS x13) (ninS (nS x9) nin0))).other W17 (.inr (sn52 W)))
  have f20 := ((((own_dI @D1 (.inl (W 298 rfl)) pf2).kf K2q KF2q (nofB (sn57 W) (nofB (sn56 W) (nofB (sn55 W) (nofB (sn54 W) (nofB (sn53 W) nof0)))))).keep K15q (ninS (nS x13) (ninS (nS x9) nin0))).other W17 (.inr (sn58 W)))
  have f21 := ((R2_0.keep K15q (ninS (nS x13) (ninS (nS x9) nin0))).other W17 (.inr (sn59 W)))
  have f22 := ((R2_1.keep K15q (ninS (nS x13) (ninS (nS x9) nin0))).other W17 (.inr (sn60 W)))
  have f23 := ((R2_2.keep K15q (ninS (nS x13) (ninS (nS x9) nin0))).other W17 (.inr (sn61 W)))
  have f24 := ((R2_3.keep K15q (ninS (nS x13) (ninS (nS x9) nin0))).other W17 (.inr (sn62 W)))
  have f25 := ((R2_4.keep K15q (ninS (nS x13) (ninS (nS x9) nin0))).other W17 (.inr (sn63 W)))
  exact gRetA b S17 d8_23 rfl rfl rfl (own_le rfl) (own_le rfl) ⟨b1, rfl, S17.f, S17.k, S17.kf, (S0.sz g1), (R15_2.other W17 (Or.inl x9)), (R15_1.other W17 (Or.inl x9)), (R15_0.other W17 x13), f18, F17, f19, f20, f21, f22, f23, f24, f25⟩
def Q_rm33_66 (Z : State)  (h0 : Heap) (n0 : Nat) (v : Option Value) (h : Heap) (L : List Loc) : Prop := v = some (.int (1 : Int32)) ∧ Fr n0 L ∧ h = h0
theorem rm33_66 (W : Wd a0 Z) (I0 : IO Z n0 h0)   : OwnM l yy64 (.code yy64 k33_ 3 (some .int)) ⟨0, 0, 0, 0⟩ #[(.int (1 : Int32)), (.int (3 : Int32)), .null] Z h0 (Q_rm33_66 Z  h0 n0) := by
  refine own_open [] [] #[.val (.int (1 : Int32)), .val (.int (3 : Int32)), .val .null] (plainFor_of_name pn_11) I0 ?_
  intro p e s m below meth c T b S0
  refine gIl b S0 d33_0 rfl 1 rfl ?_
  refine gIfN b S0 d33_1 rfl 4 rfl ?_
  refine gIl b S0 d33_4 rfl 5 rfl ?_
  refine gIl b S0 d33_5 rfl 6 rfl ?_
  refine gIcY b S0 d33_6 rfl 16 (by decide) rfl ?_
  refine gIl b S0 d33_16 rfl 17 rfl ?_
  exact gRetI b S0 d33_17 (own_le rfl) (own_le rfl) ⟨rfl, S0.f, rfl⟩
def Q_rm32_65 (Z : State)  (h0 : Heap) (n0 : Nat) (v : Option Value) (h : Heap) (L : List Loc) : Prop := v = some (.int (1 : Int32)) ∧ Fr n0 L ∧ h = h0
theorem rm32_65 (W : Wd a0 Z) (I0 : IO Z n0 h0)   : OwnM l yy63 (.code yy63 k32_ 2 (some .int)) ⟨1, 0, 0, 14⟩ #[(.int (1 : Int32)), (.int (3 : Int32))] Z h0 (Q_rm32_65 Z  h0 n0) := by
  refine own_open [] [] #[.val (.int (1 : Int32)), .val (.int (3 : Int32))] (plainFor_of_name pn_12) I0 ?_
  intro p e s m below meth c T b S0
  refine gIl b S0 d32_0 rfl 1 rfl ?_
  refine gIl b S0 d32_1 rfl 2 rfl ?_
  refine gNull b S0 d32_2 3 rfl ?_
  refine cS b S0 d32_3 (W 286 rfl) (W 287 rfl) (W 288 rfl) (W 289 rfl) (rm33_66 W S0.i) (by decide) (lenOf pd_18 rfl) rfl [] rfl 0 (own_le rfl) rfl 6 rfl fun T1 L1 v1 X1 q1 => ?_
  obtain ⟨rfl, N1q, e1⟩ := q1
  have S1 := S0.same X1 N1q e1
  refine gRv ?_
  exact gRetI b S1 d32_6 (own_le rfl) (own_le rfl) ⟨rfl, S1.f, rfl⟩
def Q_rm34_67 (Z : State) (ra1 ra2 ra3 ra4 ra5 : Addr) (ca6 : ClassId) (h0 : Heap) (n0 : Nat) (v : Option Value) (h : Heap) (L : List Loc) : Prop := v = some (.ref ra4) ∧ Fr n0 L ∧ h = h0
theorem rm34_67 (W : Wd a0 Z) (I0 : IO Z n0 h0) {ra1 ra2 ra3 ra4 ra5 : Addr} {ca6 : ClassId} (P0 : Fld Z h0 ra1 ss2 ss12 ss7 (.ref ra2)) (P1 : Arv Z h0 ra2 ca6 (.object ss4) (10 : Int32) [(.ref ra3), (.ref ra4), (.ref ra5), .null, .null, .null, .null, .null, .null, .null] .null) : OwnM l yy45 (.code yy45 k34_ 2 (some (.object ss4))) ⟨0, 0, 0, 0⟩ #[(.ref ra1), (.int (1 : Int32))] Z h0 (Q_rm34_67 Z ra1 ra2 ra3 ra4 ra5 ca6 h0 n0) := by
  refine own_open [] [] #[.val (.ref ra1), .val (.int (1 : Int32))] (plainFor_of_name pn_3) I0 ?_
  intro p e s m below meth c T b S0
  refine gAl b S0 d34_0 rfl rfl 1 rfl ?_
  refine gGf (host := "") b S0 d34_1 (.inl (W 43 rfl)) Via.refl P0 4 rfl fun T1 S1 => ?_
  refine gIl b S1 d34_4 rfl 5 rfl ?_
  refine gAald b S1 d34_5 P1 rfl (by decide) (by decide) (.ref ra4) rfl 6 rfl ?_
  exact gRetA b S1 d34_6 rfl rfl rfl (own_le rfl) (own_le rfl) ⟨rfl, S1.f, rfl⟩
def Q_rm31_64 (Z : State) (ra1 ra2 ra3 ra4 ra5 : Addr) (ca6 : ClassId) (h0 : Heap) (n0 : Nat) (v : Option Value) (h : Heap) (L : List Loc) : Prop := v = some (.ref ra4) ∧ Fr n0 L ∧ h = h0
theorem rm31_64 (W : Wd a0 Z) (I0 : IO Z n0 h0) {ra1 ra2 ra3 ra4 ra5 : Addr} {ca6 : ClassId} (P0 : Fld Z h0 ra1 ss2 ss3 "I" (.int (3 : Int32))) (P1 : Exa Z h0 ra1 ss2) (P2 : Fld Z h0 ra1 ss2 ss12 ss7 (.ref ra2)) (P3 : Arv Z h0 ra2 ca6 (.object ss4) (10 : Int32) [(.ref ra3), (.ref ra4), (.ref ra5), .null, .null, .null, .null, .null, .null, .null] .null) : OwnM l yy46 (.code yy46 k31_ 2 (some (.object ss4))) ⟨2, 0, 0, 27⟩ #[(.ref ra1), (.int (1 : Int32))] Z h0 (Q_rm31_64 Z ra1 ra2 ra3 ra4 ra5 ca6 h0 n0) := by
  refine own_open [] [] #[.val (.ref ra1), .val (.int (1 : Int32))] (plainFor_of_name pn_3) I0 ?_
  intro p e s m below meth c T b S0
  refine gIl b S0 d31_0 rfl 1 rfl ?_
  refine gAl b S0 d31_1 rfl rfl 2 rfl ?_
  refine gGf (host := "") b S0 d31_2 (.inl (W 102 rfl)) Via.refl P0 5 rfl fun T1 S1 => ?_
  refine cS b S1 d31_5 (W 282 rfl) (W 283 rfl) (W 284 rfl) (W 285 rfl) (rm32_65 W S1.i) (by decide) (lenOf pd_2 rfl) rfl [] rfl 0 (own_le rfl) rfl 8 rfl fun T2 L2 v2 X2 q2 => ?_
  obtain ⟨rfl, N2q, e2⟩ := q2
  have S2 := S1.same X2 N2q e2
  refine gRv ?_
  refine gPop b S2 d31_8 rfl 9 rfl ?_
  refine gAl b S2 d31_9 rfl rfl 10 rfl ?_
  refine gIl b S2 d31_10 rfl 11 rfl ?_
  refine cV b S2 d31_11 (W 290 rfl) (W 291 rfl) (W 293 rfl) (W 292 rfl) (W 23 rfl) (W 294 rfl) (rm34_67 W S2.i P2 P3) P1 (by decide) (lenOf pd_19 rfl) rfl [] rfl 0 (own_le rfl) rfl 14 rfl fun T3 L3 v3 X3 q3 => ?_
  obtain ⟨rfl, N3q, e3⟩ := q3
  have S3 := S2.same X3 N3q e3
  refine gRv ?_
  exact gRetA b S3 d31_14 rfl rfl rfl (own_le rfl) (own_le rfl) ⟨rfl, S3.f, rfl⟩
def Q_rm30_63 (Z : State) (ra1 ra2 ra3 ra4 ra5 ra6 : Addr) (ca7 : ClassId) (h0 : Heap) (n0 : Nat) (v : Option Value) (h : Heap) (L : List Loc) : Prop := v = some (.ref ra5) ∧ Fr n0 L ∧ h = h0
theorem rm30_63 (W : Wd a0 Z) (I0 : IO Z n0 h0) {ra1 ra2 ra3 ra4 ra5 ra6 : Addr} {ca7 : ClassId} (P0 : Fld Z h0 ra1 ss10 ss19 ss20 (.ref ra2)) (P1 : Exa Z h0 ra2 ss2) (P2 : Fld Z h0 ra2 ss2 ss3 "I" (.int (3 : Int32))) (P3 : Fld Z h0 ra2 ss2 ss12 ss7 (.ref ra3)) (P4 : Arv Z h0 ra3 ca7 (.object ss4) (10 : Int32) [(.ref ra4), (.ref ra5), (.ref ra6), .null, .null, .null, .null, .null, .null, .null] .null) : OwnM l yy35 (.code yy35 k30_ 2 (some (.object ss4))) ⟨3, 0, 0, 40⟩ #[(.ref ra1), (.int (1 : Int32))] Z h0 (Q_rm30_63 Z ra1 ra2 ra3 ra4 ra5 ra6 ca7 h0 n0) := by
  refine own_open [] [] #[.val (.ref ra1), .val (.int (1 : Int32))] (plainFor_of_name pn_4) I0 ?_
  intro p e s m below meth c T b S0
  refine gIl b S0 d30_0 rfl 1 rfl ?_
  refine gIc b S0 d30_1 (-1) rfl 2 rfl ?_
  refine gIcY b S0 d30_2 rfl 9 (by decide) rfl ?_
  refine gAl b S0 d30_9 rfl rfl 10 rfl ?_
  refine gGf (host := "") b S0 d30_10 (.inl (W 45 rfl)) Via.refl P0 13 rfl fun T1 S1 => ?_
  refine gIl b S1 d30_13 rfl 14 rfl ?_
  refine cI (xi := yy59) b S1 d30_14 (W 274 rfl) (W 275 rfl) (fun hZ => mvT hZ (W 276 rfl)) (W 277 rfl) (W 278 rfl) (W 279 rfl) (W 280 rfl) (W 98 rfl) (W 23 rfl) (W 281 rfl) (rm31_64 W S1.i P2 P1 P3 P4) P1 (by decide) (lenOf pd_19 rfl) rfl [] rfl 0 (own_le rfl) rfl 19 rfl fun T2 L2 v2 X2 q2 => ?_
  obtain ⟨rfl, N2q, e2⟩ := q2
  have S2 := S1.same X2 N2q e2
  refine gRv ?_
  exact gRetA b S2 d30_19 rfl rfl rfl (own_le rfl) (own_le rfl) ⟨rfl, S2.f, rfl⟩
def Q_rm44_57 (Z : State) (ra1 ra2 ra3 ra4 ra5 ra6 ra7 : Addr) (ca8 : ClassId) (h0 : Heap) (n0 : Nat) (v : Option Value) (h : Heap) (L : List Loc) : Prop := ∃ nw1 : Addr, v = some (.ref nw1) ∧ Fr n0 L ∧ Keep h0 h [ra6, ra5, ra2, ra1] ∧ KeepF h0 h [(ra6, none), (ra5, some (sl17 Z)), (ra5, some (sl23 Z)), (ra2, some (sl8 Z)), (ra1, some (sl24 Z))] ∧ h0.size ≤ nw1 ∧ Arv Z h ra6 ca8 (.object ss4) (10 : Int32) [(.ref ra7), (.ref ra2), (.ref nw1), .null, .null, .null, .null, .null, .null, .null] .null ∧ Fld Z h ra5 ss2 ss3 "I" (.int (3 : Int32)) ∧ Fld Z h ra5 ss5 ss6 "I" (.int (3 : Int32)) ∧ Fld Z h ra2 ss1 ss11 "I" (.int (2 : Int32)) ∧ Fld Z h ra1 ss8 "last" "I" (.int (2 : Int32)) ∧ Exa Z h nw1 ss1 ∧ Fld Z h nw1 ss1 ss17 "I" (.int (2 : Int32)) ∧ Fld Z h nw1 ss1 ss3 "I" (.int (0 : Int32)) ∧ Fld Z h nw1 ss1 ss21 "I" (.int (0 : Int32)) ∧ Fld Z h nw1 ss1 ss13 "I" (.int (-1 : Int32)) ∧ Fld Z h nw1 ss1 ss9 "I" (.int (1 : Int32)) ∧ Fld Z h nw1 ss1 ss11 "I" (.int (-1 : Int32)) ∧ Fld Z h nw1 ss1 ss15 ss16 (.ref ra1) ∧ Fld Z h nw1 ss1 "kind" ss27 (.ref ra3)
theorem rm44_57 (W : Wd a0 Z) (I0 : IO Z n0 h0) {ra1 ra2 ra3 ra4 ra5 ra6 ra7 : Addr} {ca8 : ClassId} (P0 : Exa Z h0 ra1 ss28) (P1 : Fld Z h0 ra1 ss8 ss22 ss18 (.ref ra4)) (P2 : Exa Z h0 ra4 ss10) (P3 : Fld Z h0 ra4 ss10 ss26 "I" (.int (0 : Int32))) (P4 : Fld Z h0 ra4 ss10 ss19 ss20 (.ref ra5)) (P5 : Exa Z h0 ra5 ss2) (P6 : Fld Z h0 ra5 ss5 ss6 "I" (.int (2 : Int32))) (P7 : n0 ≤ ra5) (P8 : Fld Z h0 ra5 ss2 ss12 ss7 (.ref ra6)) (P9 : Fld Z h0 ra5 ss2 ss3 "I" (.int (2 : Int32))) (P10 : Arv Z h0 ra6 ca8 (.object ss4) (10 : Int32) [(.ref ra7), (.ref ra2), .null, .null, .null, .null, .null, .null, .null, .null] .null) (P11 : Ovr Z ca8 ss4) (P12 : n0 ≤ ra6) (P13 : ra5 ≠ ra6) (P14 : ra4 ≠ ra6) (P15 : ra4 ≠ ra5) (P16 : Fld Z h0 ra2 ss1 ss17 "I" (.int (1 : Int32))) (P17 : Exa Z h0 ra2 ss1) (P18 : ra2 ≠ ra6) (P19 : ra2 ≠ ra5) (P20 : Fld Z h0 ra2 ss1 ss11 "I" (.int (-1 : Int32))) (P21 : ra1 ≠ ra6) (P22 : ra1 ≠ ra5) (P23 : n0 ≤ ra2) (P24 : Fld Z h0 ra1 ss8 "last" "I" (.int (1 : Int32))) (P25 : ra1 ≠ ra2) (P26 : n0 ≤ ra1) : OwnM l yy19 (.code yy19 k44_ 4 (some (.object ss1))) ⟨4, 1, 8, 57⟩ #[(.ref ra1), (.ref ra2), (.ref ra3)] Z h0 (Q_rm44_57 Z ra1 ra2 ra3 ra4 ra5 ra6 ra7 ca8 h0 n0) := by
  refine own_open [ra6, ra5, ra2, ra1] [(ra6, none), (ra5, some (sl17 Z)), (ra5, some (sl23 Z)), (ra2, some (sl8 Z)), (ra1, some (sl24 Z))] #[.val (.ref ra1), .val (.ref ra2), .val (.ref ra3), .unset] (plainFor_of_name pn_5) I0 ?_
  intro p e s m below meth c T b S0
  refine gAl b S0 d44_0 rfl rfl 1 rfl ?_
  refine gAl b S0 d44_1 rfl rfl 2 rfl ?_
  refine cV b S0 d44_2 (W 357 rfl) (W 63 rfl) (W 358 rfl) (W 64 rfl) (W 9 rfl) (W 66 rfl) (rm8_58 W S0.i P1 P2 P3 P4 P5 P6 P7 P8 P9 P10 P11 P12 P13 P14 P15) P0 (by decide) (lenOf pd_9 rfl) rfl [] rfl 0 (own_le rfl) rfl 5 rfl fun T1 L1 v1 X1 q1 => ?_
  obtain ⟨nw1_1, rfl, N1q, K1q, KF1q, z1_nw1, R1_0, R1_1, R1_2, R1_3, R1_4, R1_5, R1_6, R1_7, R1_8, R1_9, R1_10, R1_11⟩ := q1
  have S1 := S0.call X1 N1q K1q KF1q (allS (.inl (mI 1 rfl)) (allS (.inl (mI 0 rfl)) all0)) (fallS (.inl (mI 2 rfl)) (fallS (.inl (mI 1 rfl)) (fallS (.inl (mI 0 rfl)) fall0))) (allS P7 (allS P12 all0))
  refine gRv ?_
  refine gAs b S1 d44_5 rfl #[.val (.ref ra1), .val (.ref ra2), .val (.ref ra3), .val (.ref nw1_1)] rfl 6 rfl ?_
  refine gAl b S1 d44_6 rfl rfl 7 rfl ?_
  refine gAl b S1 d44_7 rfl rfl 8 rfl ?_
  refine gNnY b S1 d44_8 15 (by decide) rfl ?_
  refine gAl b S1 d44_15 rfl rfl 16 rfl ?_
  have f2 := (P16.keep K1q (ninS P19 (ninS P18 nin0)))
  refine gGfR b S1 d44_16 (W 134 rfl) Via.refl f2 19 rfl fun T3 S3 => ?_
  refine gPfR b S3 .int d44_19 (W 359 rfl) Via.refl R1_8 R1_3 (W 77 rfl) (W 68 rfl) pf2 rfl rfl (S0.ge z1_nw1) (.inr (S0.sz z1_nw1)) 22 rfl fun T4 h4 W4 F4 S4 => ?_
  refine gAl b S4 d44_22 rfl rfl 23 rfl ?_
  refine gAl b S4 d44_23 rfl rfl 24 rfl ?_
  refine gNnY b S4 d44_24 34 (by decide) rfl ?_
  refine gAl b S4 d44_34 rfl rfl 35 rfl ?_
  have x5 := (nL (tL P16.lt z1_nw1))
  have f6 := ((P20.keep K1q (ninS P19 (ninS P18 nin0))).other W4 (Or.inl x5))
  refine gGfR b S4 d44_35 (W 360 rfl) Via.refl f6 38 rfl fun T7 S7 => ?_
  have f8 := (R1_9.other W4 (.inr (sn22 W)))
  refine gPfR b S7 .int d44_38 (W 360 rfl) Via.refl f8 (R1_3.wr W4) (W 79 rfl) (W 68 rfl) pf2 rfl rfl (S0.ge z1_nw1) (.inr (S0.sz z1_nw1)) 41 rfl fun T9 h9 W9 F9 S9 => ?_
  refine gAl b S9 d44_41 rfl rfl 42 rfl ?_
  refine gGfR b S9 d44_42 (W 359 rfl) Via.refl (F4.other W9 (.inr (sn34 W))) 45 rfl fun T10 S10 => ?_
  refine gIc b S10 d44_45 (-1) rfl 46 rfl ?_
  refine gIcY b S10 d44_46 rfl 60 (by decide) rfl ?_
  refine gAl b S10 d44_60 rfl rfl 61 rfl ?_
  have x11 := (nL (tL P0.lt z1_nw1))
  have f12 := (((P1.keep K1q (ninS P22 (ninS P21 nin0))).other W4 (Or.inl x11)).other W9 (Or.inl x11))
  refine gGf (host := "") b S10 d44_61 (.inl (W 52 rfl)) Via.refl f12 64 rfl fun T13 S13 => ?_
  refine gAl b S13 d44_64 rfl rfl 65 rfl ?_
  refine gGfR b S13 d44_65 (W 359 rfl) Via.refl (F4.other W9 (.inr (sn34 W))) 68 rfl fun T14 S14 => ?_
  have x15 := (nL (tL P2.lt z1_nw1))
  have f16 := (((P4.keep K1q (ninS P15 (ninS P14 nin0))).other W4 (Or.inl x15)).other W9 (Or.inl x15))
  have x17 := (nL (tL P5.lt z1_nw1))
  have f18 := ((R1_1.other W4 (Or.inl x17)).other W9 (Or.inl x17))
  have f19 := (((P8.kf K1q KF1q (nofB (sn0 W) (nofB (sn40 W) (nofA P13 nof0)))).other W4 (Or.inl x17)).other W9 (Or.inl x17))
  have x20 := (nL (tL P10.lt z1_nw1))
  have f21 := ((R1_2.other W4 x20).other W9 x20)
  refine cV b S14 d44_68 (W 306 rfl) (W 270 rfl) (W 272 rfl) (W 271 rfl) (W 16 rfl) (W 273 rfl) (rm30_63 W S14.i f16 (((P5.keep K1q).wr W4).wr W9) f18 f19 f21) (((P2.keep K1q).wr W4).wr W9) (by decide) (lenOf pd_19 rfl) rfl [] rfl 0 (own_le rfl) rfl 71 rfl fun T22 L22 v22 X22 q22 => ?_
  obtain ⟨rfl, N22q, e22⟩ := q22
  have S22 := S14.same X22 N22q e22
  refine gRv ?_
  refine gCc b S22 d44_71 (W 67 rfl) (Ins.self (((P17.keep K1q).wr W4).wr W9)) 74 rfl fun T23 S23 => ?_
  refine gAl b S23 d44_74 rfl rfl 75 rfl ?_
  have f24 := ((R1_4.other W4 (.inr (sn45 W))).other W9 (.inr (sn44 W)))
  refine gGfR b S23 d44_75 (W 134 rfl) Via.refl f24 78 rfl fun T25 S25 => ?_
  refine gPfR b S25 .int d44_78 (W 360 rfl) Via.refl (f6.other W9 (Or.inl x5)) (((P17.keep K1q).wr W4).wr W9) (W 79 rfl) (W 68 rfl) pf2 rfl rfl P23 (.inl ⟨mI 2 rfl, mI 3 rfl⟩) 81 rfl fun T26 h26 W26 F26 S26 => ?_
  refine gAl b S26 d44_81 rfl rfl 82 rfl ?_
  have f27 := (F9.other W26 (Or.inl (nS x5)))
  refine gGfR b S26 d44_82 (W 360 rfl) Via.refl f27 85 rfl fun T28 S28 => ?_
  refine gIc b S28 d44_85 (-1) rfl 86 rfl ?_
  refine gIcN b S28 d44_86 rfl 89 rfl ?_
  refine gAl b S28 d44_89 rfl rfl 90 rfl ?_
  refine gAl b S28 d44_90 rfl rfl 91 rfl ?_
  have f29 := (f24.other W26 (Or.inl (nS x5)))
  refine gGfR b S28 d44_91 (W 134 rfl) Via.refl f29 94 rfl fun T30 S30 => ?_
  have f31 := ((((P24.keep K1q (ninS P22 (ninS P21 nin0))).other W4 (Or.inl x11)).other W9 (Or.inl x11)).other W26 (Or.inl P25))
  have f32 := ((((P0.keep K1q).wr W4).wr W9).wr W26)
  refine gPf (host := "") b S30 .int d44_94 (.inl (W 56 rfl)) Via.refl f31 f32 (.inl (W 57 rfl)) (W 1 rfl) pf2 rfl rfl P26 (.inl ⟨mI 3 rfl, mI 4 rfl⟩) 97 rfl fun T33 h33 W33 F33 S33 => ?_
  refine gGoto b S33 d44_97 121 (by decide) rfl ?_
  refine gAl b S33 d44_121 rfl rfl 122 rfl ?_
  have f34 := ((f21.other W26 (nS P18)).other W33 (nS P21))
  have f35 := ((f18.other W26 (Or.inl (nS P19))).other W33 (Or.inl (nS P22)))
  have f36 := ((((R1_0.other W4 (Or.inl x17)).other W9 (Or.inl x17)).other W26 (Or.inl (nS P19))).other W33 (Or.inl (nS P22)))
  have f37 := (F26.other W33 (Or.inl (nS P25)))
  have f38 := ((((R1_3.wr W4).wr W9).wr W26).wr W33)
  have f39 := (f29.other W33 (Or.inl (nS x11)))
  have f40 := ((((R1_5.other W4 (.inr (sn50 W))).other W9 (.inr (sn49 W))).other W26 (Or.inl (nS x5))).other W33 (Or.inl (nS x11)))
  have f41 := ((((R1_6.other W4 (.inr (sn56 W))).other W9 (.inr (sn55 W))).other W26 (Or.inl (nS x5))).other W33 (Or.inl (nS x11)))
  have f42 := ((((R1_7.other W4 (.inr (sn30 W))).other W9 (.inr (sn31 W))).other W26 (Or.inl (nS x5))).other W33 (Or.inl (nS x11)))
  have f43 := (((F4.other W9 (.inr (sn34 W))).other W26 (Or.inl (nS x5))).other W33 (Or.inl (nS x11)))
  have f44 := (f27.other W33 (Or.inl (nS x11)))
  have f45 := ((((R1_10.other W4 (.inr (sn24 W))).other W9 (.inr (sn25 W))).other W26 (Or.inl (nS x5))).other W33 (Or.inl (nS x11)))
  have f46 := ((((R1_11.other W4 (.inr (sn27 W))).other W9 (.inr (sn28 W))).other W26 (Or.inl (nS x5))).other W33 (Or.inl (nS x11)))
  exact gRetA b S33 d44_122 rfl rfl rfl (own_le rfl) (own_le rfl) ⟨nw1_1, rfl, S33.f, S33.k, S33.kf, (S0.sz z1_nw1), f34, f35, f36, f37, F33, f38, f39, f40, f41, f42, f43, f44, f45, f46⟩
def Q_rm45_68 (Z : State) (ra1 ra2 ra3 ra4 ra5 ra6 : Addr) (ca7 : ClassId) (h0 : Heap) (n0 : Nat) (v : Option Value) (h : Heap) (L : List Loc) : Prop := v = some (.ref ra6) ∧ Fr n0 L ∧ h = h0
theorem rm45_68 (W : Wd a0 Z) (I0 : IO Z n0 h0) {ra1 ra2 ra3 ra4 ra5 ra6 : Addr} {ca7 : ClassId} (P0 : Fld Z h0 ra1 ss1 ss15 ss16 (.ref ra2)) (P1 : Fld Z h0 ra2 ss8 ss31 ss18 (.ref ra3)) (P2 : Fld Z h0 ra1 ss1 ss13 "I" (.int (0 : Int32))) (P3 : Exa Z h0 ra3 ss10) (P4 : Fld Z h0 ra3 ss10 ss19 ss20 (.ref ra4)) (P5 : Exa Z h0 ra4 ss2) (P6 : Fld Z h0 ra4 ss2 ss3 "I" (.int (1 : Int32))) (P7 : Fld Z h0 ra4 ss2 ss12 ss7 (.ref ra5)) (P8 : Arv Z h0 ra5 ca7 (.object ss4) (10 : Int32) [(.ref ra6), .null, .null, .null, .null, .null, .null, .null, .null, .null] .null) (P9 : Exa Z h0 ra6 ss0) : OwnM l yy29 (.code yy29 k45_ 1 (some (.object ss0))) ⟨4, 0, 0, 53⟩ #[(.ref ra1)] Z h0 (Q_rm45_68 Z ra1 ra2 ra3 ra4 ra5 ra6 ca7 h0 n0) := by
  refine own_open [] [] #[.val (.ref ra1)] (plainFor_of_name pn_6) I0 ?_
  intro p e s m below meth c T b S0
  refine gAl b S0 d45_0 rfl rfl 1 rfl ?_
  refine gGf (host := "") b S0 d45_1 (.inl (W 80 rfl)) Via.refl P0 4 rfl fun T1 S1 => ?_
  refine gGf b S1 d45_4 (.inr (W 366 rfl)) Via.refl P1 7 rfl fun T2 S2 => ?_
  refine gAl b S2 d45_7 rfl rfl 8 rfl ?_
  refine gGf (host := "") b S2 d45_8 (.inl (W 74 rfl)) Via.refl P2 11 rfl fun T3 S3 => ?_
  refine cV b S3 d45_11 (W 367 rfl) (W 270 rfl) (W 272 rfl) (W 271 rfl) (W 16 rfl) (W 273 rfl) (rm30_34 W S3.i P4 P5 P6 P7 P8) P3 (by decide) (lenOf pd_19 rfl) rfl [] rfl 0 (own_le rfl) rfl 14 rfl fun T4 L4 v4 X4 q4 => ?_
  obtain ⟨rfl, N4q, e4⟩ := q4
  have S4 := S3.same X4 N4q e4
  refine gRv ?_
  refine gCc b S4 d45_14 (W 368 rfl) (Ins.self P9) 17 rfl fun T5 S5 => ?_
  exact gRetA b S5 d45_17 rfl rfl rfl (own_le rfl) (own_le rfl) ⟨rfl, S5.f, rfl⟩
def Q_rm33_74 (Z : State)  (h0 : Heap) (n0 : Nat) (v : Option Value) (h : Heap) (L : List Loc) : Prop := v = some (.int (0 : Int32)) ∧ Fr n0 L ∧ h = h0
theorem rm33_74 (W : Wd a0 Z) (I0 : IO Z n0 h0)   : OwnM l yy64 (.code yy64 k33_ 3 (some .int)) ⟨0, 0, 0, 0⟩ #[(.int (0 : Int32)), (.int (3 : Int32)), .null] Z h0 (Q_rm33_74 Z  h0 n0) := by
  refine own_open [] [] #[.val (.int (0 : Int32)), .val (.int (3 : Int32)), .val .null] (plainFor_of_name pn_11) I0 ?_
  intro p e s m below meth c T b S0
  refine gIl b S0 d33_0 rfl 1 rfl ?_
  refine gIfN b S0 d33_1 rfl 4 rfl ?_
  refine gIl b S0 d33_4 rfl 5 rfl ?_
  refine gIl b S0 d33_5 rfl 6 rfl ?_
  refine gIcY b S0 d33_6 rfl 16 (by decide) rfl ?_
  refine gIl b S0 d33_16 rfl 17 rfl ?_
  exact gRetI b S0 d33_17 (own_le rfl) (own_le rfl) ⟨rfl, S0.f, rfl⟩
def Q_rm32_73 (Z : State)  (h0 : Heap) (n0 : Nat) (v : Option Value) (h : Heap) (L : List Loc) : Prop := v = some (.int (0 : Int32)) ∧ Fr n0 L ∧ h = h0
theorem rm32_73 (W : Wd a0 Z) (I0 : IO Z n0 h0)   : OwnM l yy63 (.code yy63 k32_ 2 (some .int)) ⟨1, 0, 0, 14⟩ #[(.int (0 : Int32)), (.int (3 : Int32))] Z h0 (Q_rm32_73 Z  h0 n0) := by
  refine own_open [] [] #[.val (.int (0 : Int32)), .val (.int (3 : Int32))] (plainFor_of_name pn_12) I0 ?_
  intro p e s m below meth c T b S0
  refine gIl b S0 d32_0 rfl 1 rfl ?_
  refine gIl b S0 d32_1 rfl 2 rfl ?_
  refine gNull b S0 d32_2 3 rfl ?_
  refine cS b S0 d32_3 (W 286 rfl) (W 287 rfl) (W 288 rfl) (W 289 rfl) (rm33_74 W S0.i) (by decide) (lenOf pd_18 rfl) rfl [] rfl 0 (own_le rfl) rfl 6 rfl fun T1 L1 v1 X1 q1 => ?_
  obtain ⟨rfl, N1q, e1⟩ := q1
  have S1 := S0.same X1 N1q e1
  refine gRv ?_
  exact gRetI b S1 d32_6 (own_le rfl) (own_le rfl) ⟨rfl, S1.f, rfl⟩
def Q_rm34_75 (Z : State) (ra1 ra2 ra3 ra4 ra5 : Addr) (ca6 : ClassId) (h0 : Heap) (n0 : Nat) (v : Option Value) (h : Heap) (L : List Loc) : Prop := v = some (.ref ra3) ∧ Fr n0 L ∧ h = h0
theorem rm34_75 (W : Wd a0 Z) (I0 : IO Z n0 h0) {ra1 ra2 ra3 ra4 ra5 : Addr} {ca6 : ClassId} (P0 : Fld Z h0 ra1 ss2 ss12 ss7 (.ref ra2)) (P1 : Arv Z h0 ra2 ca6 (.object ss4) (10 : Int32) [(.ref ra3), (.ref ra4), (.ref ra5), .null, .null, .null, .null, .null, .null, .null] .null) : OwnM l yy45 (.code yy45 k34_ 2 (some (.object ss4))) ⟨0, 0, 0, 0⟩ #[(.ref ra1), (.int (0 : Int32))] Z h0 (Q_rm34_75 Z ra1 ra2 ra3 ra4 ra5 ca6 h0 n0) := by
  refine own_open [] [] #[.val (.ref ra1), .val (.int (0 : Int32))] (plainFor_of_name pn_3) I0 ?_
  intro p e s m below meth c T b S0
  refine gAl b S0 d34_0 rfl rfl 1 rfl ?_
  refine gGf (host := "") b S0 d34_1 (.inl (W 43 rfl)) Via.refl P0 4 rfl fun T1 S1 => ?_
  refine gIl b S1 d34_4 rfl 5 rfl ?_
  refine gAald b S1 d34_5 P1 rfl (by decide) (by decide) (.ref ra3) rfl 6 rfl ?_
  exact gRetA b S1 d34_6 rfl rfl rfl (own_le rfl) (own_le rfl) ⟨rfl, S1.f, rfl⟩
def Q_rm31_72 (Z : State) (ra1 ra2 ra3 ra4 ra5 : Addr) (ca6 : ClassId) (h0 : Heap) (n0 : Nat) (v : Option Value) (h : Heap) (L : List Loc) : Prop := v = some (.ref ra3) ∧ Fr n0 L ∧ h = h0
theorem rm31_72 (W : Wd a0 Z) (I0 : IO Z n0 h0) {ra1 ra2 ra3 ra4 ra5 : Addr} {ca6 : ClassId} (P0 : Fld Z h0 ra1 ss2 ss3 "I" (.int (3 : Int32))) (P1 : Exa Z h0 ra1 ss2) (P2 : Fld Z h0 ra1 ss2 ss12 ss7 (.ref ra2)) (P3 : Arv Z h0 ra2 ca6 (.object ss4) (10 : Int32) [(.ref ra3), (.ref ra4), (.ref ra5), .null, .null, .null, .null, .null, .null, .null] .null) : OwnM l yy46 (.code yy46 k31_ 2 (some (.object ss4))) ⟨2, 0, 0, 27⟩ #[(.ref ra1), (.int (0 : Int32))] Z h0 (Q_rm31_72 Z ra1 ra2 ra3 ra4 ra5 ca6 h0 n0) := by
  refine own_open [] [] #[.val (.ref ra1), .val (.int (0 : Int32))] (plainFor_of_name pn_3) I0 ?_
  intro p e s m below meth c T b S0
  refine gIl b S0 d31_0 rfl 1 rfl ?_
  refine gAl b S0 d31_1 rfl rfl 2 rfl ?_
  refine gGf (host := "") b S0 d31_2 (.inl (W 102 rfl)) Via.refl P0 5 rfl fun T1 S1 => ?_
  refine cS b S1 d31_5 (W 282 rfl) (W 283 rfl) (W 284 rfl) (W 285 rfl) (rm32_73 W S1.i) (by decide) (lenOf pd_2 rfl) rfl [] rfl 0 (own_le rfl) rfl 8 rfl fun T2 L2 v2 X2 q2 => ?_
  obtain ⟨rfl, N2q, e2⟩ := q2
  have S2 := S1.same X2 N2q e2
  refine gRv ?_
  refine gPop b S2 d31_8 rfl 9 rfl ?_
  refine gAl b S2 d31_9 rfl rfl 10 rfl ?_
  refine gIl b S2 d31_10 rfl 11 rfl ?_
  refine cV b S2 d31_11 (W 290 rfl) (W 291 rfl) (W 293 rfl) (W 292 rfl) (W 23 rfl) (W 294 rfl) (rm34_75 W S2.i P2 P3) P1 (by decide) (lenOf pd_19 rfl) rfl [] rfl 0 (own_le rfl) rfl 14 rfl fun T3 L3 v3 X3 q3 => ?_
  obtain ⟨rfl, N3q, e3⟩ := q3
  have S3 := S2.same X3 N3q e3
  refine gRv ?_
  exact gRetA b S3 d31_14 rfl rfl rfl (own_le rfl) (own_le rfl) ⟨rfl, S3.f, rfl⟩
def Q_rm30_71 (Z : State) (ra1 ra2 ra3 ra4 ra5 ra6 : Addr) (ca7 : ClassId) (h0 : Heap) (n0 : Nat) (v : Option Value) (h : Heap) (L : List Loc) : Prop := v = some (.ref ra4) ∧ Fr n0 L ∧ h = h0
theorem rm30_71 (W : Wd a0 Z) (I0 : IO Z n0 h0) {ra1 ra2 ra3 ra4 ra5 ra6 : Addr} {ca7 : ClassId} (P0 : Fld Z h0 ra1 ss10 ss19 ss20 (.ref ra2)) (P1 : Exa Z h0 ra2 ss2) (P2 : Fld Z h0 ra2 ss2 ss3 "I" (.int (3 : Int32))) (P3 : Fld Z h0 ra2 ss2 ss12 ss7 (.ref ra3)) (P4 : Arv Z h0 ra3 ca7 (.object ss4) (10 : Int32) [(.ref ra4), (.ref ra5), (.ref ra6), .null, .null, .null, .null, .null, .null, .null] .null) : OwnM l yy35 (.code yy35 k30_ 2 (some (.object ss4))) ⟨3, 0, 0, 40⟩ #[(.ref ra1), (.int (0 : Int32))] Z h0 (Q_rm30_71 Z ra1 ra2 ra3 ra4 ra5 ra6 ca7 h0 n0) := by
  refine own_open [] [] #[.val (.ref ra1), .val (.int (0 : Int32))] (plainFor_of_name pn_4) I0 ?_
  intro p e s m below meth c T b S0
  refine gIl b S0 d30_0 rfl 1 rfl ?_
  refine gIc b S0 d30_1 (-1) rfl 2 rfl ?_
  refine gIcY b S0 d30_2 rfl 9 (by decide) rfl ?_
  refine gAl b S0 d30_9 rfl rfl 10 rfl ?_
  refine gGf (host := "") b S0 d30_10 (.inl (W 45 rfl)) Via.refl P0 13 rfl fun T1 S1 => ?_
  refine gIl b S1 d30_13 rfl 14 rfl ?_
  refine cI (xi := yy59) b S1 d30_14 (W 274 rfl) (W 275 rfl) (fun hZ => mvT hZ (W 276 rfl)) (W 277 rfl) (W 278 rfl) (W 279 rfl) (W 280 rfl) (W 98 rfl) (W 23 rfl) (W 281 rfl) (rm31_72 W S1.i P2 P1 P3 P4) P1 (by decide) (lenOf pd_19 rfl) rfl [] rfl 0 (own_le rfl) rfl 19 rfl fun T2 L2 v2 X2 q2 => ?_
  obtain ⟨rfl, N2q, e2⟩ := q2
  have S2 := S1.same X2 N2q e2
  refine gRv ?_
  exact gRetA b S2 d30_19 rfl rfl rfl (own_le rfl) (own_le rfl) ⟨rfl, S2.f, rfl⟩
def Q_rm36_70 (Z : State) (ra1 ra2 ra3 ra4 ra5 ra6 ra7 ra8 : Addr) (ca9 : ClassId) (h0 : Heap) (n0 : Nat) (v : Option Value) (h : Heap) (L : List Loc) : Prop := v = none ∧ Fr n0 L ∧ Keep h0 h [ra6] ∧ KeepF h0 h [(ra6, some (sl9 Z)), (ra6, some (sl12 Z))] ∧ Fld Z h ra6 ss1 ss13 "I" (.int (-1 : Int32)) ∧ Fld Z h ra6 ss1 ss3 "I" (.int (0 : Int32))
theorem rm36_70 (W : Wd a0 Z) (I0 : IO Z n0 h0) {ra1 ra2 ra3 ra4 ra5 ra6 ra7 ra8 : Addr} {ca9 : ClassId} (P0 : Fld Z h0 ra1 ss0 ss15 ss16 (.ref ra2)) (P1 : Fld Z h0 ra1 ss0 ss9 "I" (.int (-1 : Int32))) (P2 : Fld Z h0 ra2 ss8 ss22 ss18 (.ref ra3)) (P3 : Fld Z h0 ra1 ss0 ss14 "I" (.int (0 : Int32))) (P4 : Exa Z h0 ra3 ss10) (P5 : Fld Z h0 ra3 ss10 ss19 ss20 (.ref ra4)) (P6 : Exa Z h0 ra4 ss2) (P7 : Fld Z h0 ra4 ss2 ss3 "I" (.int (3 : Int32))) (P8 : Fld Z h0 ra4 ss2 ss12 ss7 (.ref ra5)) (P9 : Arv Z h0 ra5 ca9 (.object ss4) (10 : Int32) [(.ref ra6), (.ref ra7), (.ref ra8), .null, .null, .null, .null, .null, .null, .null] .null) (P10 : Exa Z h0 ra6 ss1) (P11 : Fld Z h0 ra1 ss0 ss11 "I" (.int (-1 : Int32))) (P12 : Fld Z h0 ra6 ss1 ss13 "I" (.int (0 : Int32))) (P13 : n0 ≤ ra6) (P14 : ra1 ≠ ra6) (P15 : ra2 ≠ ra6) (P16 : ra3 ≠ ra6) (P17 : ra4 ≠ ra6) (P18 : ra5 ≠ ra6) (P19 : Fld Z h0 ra6 ss1 ss3 "I" (.int (1 : Int32))) : OwnM l yy25 (.code yy25 k36_ 2 none) ⟨4, 0, 0, 53⟩ #[(.ref ra1)] Z h0 (Q_rm36_70 Z ra1 ra2 ra3 ra4 ra5 ra6 ra7 ra8 ca9 h0 n0) := by
  refine own_open [ra6] [(ra6, some (sl9 Z)), (ra6, some (sl12 Z))] #[.val (.ref ra1), .unset] (plainFor_of_name pn_5) I0 ?_
  intro p e s m below meth c T b S0
  refine gAl b S0 d36_0 rfl rfl 1 rfl ?_
  refine gGfR b S0 d36_1 (W 188 rfl) Via.refl P0 4 rfl fun T1 S1 => ?_
  refine gAs b S1 d36_4 rfl #[.val (.ref ra1), .val (.ref ra2)] rfl 5 rfl ?_
  refine gAl b S1 d36_5 rfl rfl 6 rfl ?_
  refine gGfR b S1 d36_6 (W 191 rfl) Via.refl P1 9 rfl fun T2 S2 => ?_
  refine gIc b S2 d36_9 (-1) rfl 10 rfl ?_
  refine gIcN b S2 d36_10 rfl 13 rfl ?_
  refine gAl b S2 d36_13 rfl rfl 14 rfl ?_
  refine gGf (host := "") b S2 d36_14 (.inl (W 52 rfl)) Via.refl P2 17 rfl fun T3 S3 => ?_
  refine gAl b S3 d36_17 rfl rfl 18 rfl ?_
  refine gGfR b S3 d36_18 (W 190 rfl) Via.refl P3 21 rfl fun T4 S4 => ?_
  refine cV b S4 d36_21 (W 306 rfl) (W 270 rfl) (W 272 rfl) (W 271 rfl) (W 16 rfl) (W 273 rfl) (rm30_71 W S4.i P5 P6 P7 P8 P9) P4 (by decide) (lenOf pd_19 rfl) rfl [] rfl 0 (own_le rfl) rfl 24 rfl fun T5 L5 v5 X5 q5 => ?_
  obtain ⟨rfl, N5q, e5⟩ := q5
  have S5 := S4.same X5 N5q e5
  refine gRv ?_
  refine gCc b S5 d36_24 (W 67 rfl) (Ins.self P10) 27 rfl fun T6 S6 => ?_
  refine gAl b S6 d36_27 rfl rfl 28 rfl ?_
  refine gGfR b S6 d36_28 (W 193 rfl) Via.refl P11 31 rfl fun T7 S7 => ?_
  refine gPfR b S7 .int d36_31 (W 192 rfl) Via.refl P12 P10 (W 75 rfl) (W 68 rfl) pf2 rfl rfl P13 (.inl ⟨mI 0 rfl, mI 0 rfl⟩) 34 rfl fun T8 h8 W8 F8 S8 => ?_
  refine gGoto b S8 d36_34 58 (by decide) rfl ?_
  refine gAl b S8 d36_58 rfl rfl 59 rfl ?_
  refine gGfR b S8 d36_59 (W 193 rfl) Via.refl (P11.other W8 (Or.inl P14)) 62 rfl fun T9 S9 => ?_
  refine gIc b S9 d36_62 (-1) rfl 63 rfl ?_
  refine gIcY b S9 d36_63 rfl 87 (by decide) rfl ?_
  refine gAl b S9 d36_87 rfl rfl 88 rfl ?_
  refine gGf (host := "") b S9 d36_88 (.inl (W 52 rfl)) Via.refl (P2.other W8 (Or.inl P15)) 91 rfl fun T10 S10 => ?_
  refine gAl b S10 d36_91 rfl rfl 92 rfl ?_
  refine gGfR b S10 d36_92 (W 190 rfl) Via.refl (P3.other W8 (Or.inl P14)) 95 rfl fun T11 S11 => ?_
  refine cV b S11 d36_95 (W 306 rfl) (W 270 rfl) (W 272 rfl) (W 271 rfl) (W 16 rfl) (W 273 rfl) (rm30_71 W S11.i (P5.other W8 (Or.inl P16)) (P6.wr W8) (P7.other W8 (Or.inl P17)) (P8.other W8 (Or.inl P17)) (P9.other W8 P18)) (P4.wr W8) (by decide) (lenOf pd_19 rfl) rfl [] rfl 0 (own_le rfl) rfl 98 rfl fun T12 L12 v12 X12 q12 => ?_
  obtain ⟨rfl, N12q, e12⟩ := q12
  have S12 := S11.same X12 N12q e12
  refine gRv ?_
  refine gCc b S12 d36_98 (W 67 rfl) (Ins.self (P10.wr W8)) 101 rfl fun T13 S13 => ?_
  refine gDup b S13 d36_101 rfl 102 rfl ?_
  refine gGfR b S13 d36_102 (W 194 rfl) Via.refl (P19.other W8 (.inr (sn51 W))) 105 rfl fun T14 S14 => ?_
  refine gIc b S14 d36_105 1 rfl 106 rfl ?_
  refine gSub b S14 d36_106 0 rfl 107 rfl ?_
  refine gPfR b S14 .int d36_107 (W 194 rfl) Via.refl (P19.other W8 (.inr (sn51 W))) (P10.wr W8) (W 195 rfl) (W 68 rfl) pf2 rfl rfl P13 (.inl ⟨mI 0 rfl, mI 1 rfl⟩) 110 rfl fun T15 h15 W15 F15 S15 => ?_
  have f16 := (F8.other W15 (.inr (sn100 W)))
  exact gRetV b S15 d36_110 (own_le rfl) (own_le rfl) ⟨rfl, S15.f, S15.k, S15.kf, f16, F15⟩
def Q_rm20_76 (Z : State) (ra1 ra2 ra3 : Addr) (h0 : Heap) (n0 : Nat) (v : Option Value) (h : Heap) (L : List Loc) : Prop := v = none ∧ Fr n0 L ∧ Keep h0 h [ra1, ra2] ∧ KeepF h0 h [(ra1, some (sl2 Z)), (ra1, some (sl6 Z)), (ra1, some (sl1 Z)), (ra2, some (sl9 Z)), (ra2, some (sl12 Z))] ∧ Fld Z h ra1 ss0 ss14 "I" (.int (1 : Int32)) ∧ Fld Z h ra1 ss0 ss9 "I" (.int (-1 : Int32)) ∧ Fld Z h ra1 ss0 ss11 "I" (.int (-1 : Int32)) ∧ Fld Z h ra2 ss1 ss13 "I" (.int (0 : Int32)) ∧ Fld Z h ra2 ss1 ss3 "I" (.int (1 : Int32))
theorem rm20_76 (W : Wd a0 Z) (I0 : IO Z n0 h0) {ra1 ra2 ra3 : Addr} (P0 : Fld Z h0 ra2 ss1 ss15 ss16 (.ref ra3)) (P1 : Fld Z h0 ra1 ss0 ss17 "I" (.int (0 : Int32))) (P2 : Fld Z h0 ra2 ss1 ss17 "I" (.int (1 : Int32))) (P3 : Exa Z h0 ra1 ss0) (P4 : Fld Z h0 ra1 ss0 ss14 "I" (.int (0 : Int32))) (P5 : n0 ≤ ra1) (P6 : Fld Z h0 ra1 ss0 ss9 "I" (.int (-1 : Int32))) (P7 : Fld Z h0 ra2 ss1 ss13 "I" (.int (-1 : Int32))) (P8 : Exa Z h0 ra2 ss1) (P9 : ra2 ≠ ra1) (P10 : Fld Z h0 ra1 ss0 ss11 "I" (.int (-1 : Int32))) (P11 : n0 ≤ ra2) (P12 : Fld Z h0 ra2 ss1 ss3 "I" (.int (0 : Int32))) : OwnM l yy21 (.code yy21 k20_ 3 none) ⟨0, 0, 0, 0⟩ #[(.ref ra1), (.ref ra2)] Z h0 (Q_rm20_76 Z ra1 ra2 ra3 h0 n0) := by
  refine own_open [ra1, ra2] [(ra1, some (sl2 Z)), (ra1, some (sl6 Z)), (ra1, some (sl1 Z)), (ra2, some (sl9 Z)), (ra2, some (sl12 Z))] #[.val (.ref ra1), .val (.ref ra2), .unset] (plainFor_of_name pn_5) I0 ?_
  intro p e s m below meth c T b S0
  refine gAl b S0 d20_0 rfl rfl 1 rfl ?_
  refine gGfR b S0 d20_1 (W 186 rfl) Via.refl P0 4 rfl fun T1 S1 => ?_
  refine gAs b S1 d20_4 rfl #[.val (.ref ra1), .val (.ref ra2), .val (.ref ra3)] rfl 5 rfl ?_
  refine gAl b S1 d20_5 rfl rfl 6 rfl ?_
  refine gGfR b S1 d20_6 (W 187 rfl) Via.refl P1 9 rfl fun T2 S2 => ?_
  refine gIc b S2 d20_9 (-1) rfl 10 rfl ?_
  refine gIcY b S2 d20_10 rfl 30 (by decide) rfl ?_
  refine gAl b S2 d20_30 rfl rfl 31 rfl ?_
  refine gAl b S2 d20_31 rfl rfl 32 rfl ?_
  refine gGfR b S2 d20_32 (W 134 rfl) Via.refl P2 35 rfl fun T3 S3 => ?_
  refine gPfR b S3 .int d20_35 (W 190 rfl) Via.refl P4 P3 (W 156 rfl) (W 139 rfl) pf2 rfl rfl P5 (.inl ⟨mI 0 rfl, mI 0 rfl⟩) 38 rfl fun T4 h4 W4 F4 S4 => ?_
  refine gAl b S4 d20_38 rfl rfl 39 rfl ?_
  refine gIc b S4 d20_39 (-1) rfl 40 rfl ?_
  refine gPfR b S4 .int d20_40 (W 191 rfl) Via.refl (P6.other W4 (.inr (sn74 W))) (P3.wr W4) (W 158 rfl) (W 139 rfl) pf2 rfl rfl P5 (.inl ⟨mI 0 rfl, mI 1 rfl⟩) 43 rfl fun T5 h5 W5 F5 S5 => ?_
  refine gAl b S5 d20_43 rfl rfl 44 rfl ?_
  refine gAl b S5 d20_44 rfl rfl 45 rfl ?_
  have f6 := ((P7.other W4 (Or.inl P9)).other W5 (Or.inl P9))
  refine gGfR b S5 d20_45 (W 192 rfl) Via.refl f6 48 rfl fun T7 S7 => ?_
  have f8 := ((P10.other W4 (.inr (sn76 W))).other W5 (.inr (sn77 W)))
  refine gPfR b S7 .int d20_48 (W 193 rfl) Via.refl f8 ((P3.wr W4).wr W5) (W 160 rfl) (W 139 rfl) pf2 rfl rfl P5 (.inl ⟨mI 0 rfl, mI 2 rfl⟩) 51 rfl fun T9 h9 W9 F9 S9 => ?_
  refine gAl b S9 d20_51 rfl rfl 52 rfl ?_
  refine gGfR b S9 d20_52 (W 192 rfl) Via.refl (f6.other W9 (Or.inl P9)) 55 rfl fun T10 S10 => ?_
  refine gIc b S10 d20_55 (-1) rfl 56 rfl ?_
  refine gIcY b S10 d20_56 rfl 80 (by decide) rfl ?_
  refine gAl b S10 d20_80 rfl rfl 81 rfl ?_
  refine gAl b S10 d20_81 rfl rfl 82 rfl ?_
  have f11 := (((P1.other W4 (.inr (sn82 W))).other W5 (.inr (sn83 W))).other W9 (.inr (sn84 W)))
  refine gGfR b S10 d20_82 (W 187 rfl) Via.refl f11 85 rfl fun T12 S12 => ?_
  refine gPfR b S12 .int d20_85 (W 192 rfl) Via.refl (f6.other W9 (Or.inl P9)) (((P8.wr W4).wr W5).wr W9) (W 75 rfl) (W 68 rfl) pf2 rfl rfl P11 (.inl ⟨mI 1 rfl, mI 3 rfl⟩) 88 rfl fun T13 h13 W13 F13 S13 => ?_
  refine gAl b S13 d20_88 rfl rfl 89 rfl ?_
  refine gDup b S13 d20_89 rfl 90 rfl ?_
  have f14 := ((((P12.other W4 (Or.inl P9)).other W5 (Or.inl P9)).other W9 (Or.inl P9)).other W13 (.inr (sn51 W)))
  refine gGfR b S13 d20_90 (W 194 rfl) Via.refl f14 93 rfl fun T15 S15 => ?_
  refine gIc b S15 d20_93 1 rfl 94 rfl ?_
  refine gAdd b S15 d20_94 1 rfl 95 rfl ?_
  have f16 := ((((P8.wr W4).wr W5).wr W9).wr W13)
  refine gPfR b S15 .int d20_95 (W 194 rfl) Via.refl f14 f16 (W 195 rfl) (W 68 rfl) pf2 rfl rfl P11 (.inl ⟨mI 1 rfl, mI 4 rfl⟩) 98 rfl fun T17 h17 W17 F17 S17 => ?_
  have f18 := ((((F4.other W5 (.inr (sn86 W))).other W9 (.inr (sn87 W))).other W13 (Or.inl (nS P9))).other W17 (Or.inl (nS P9)))
  have f19 := (((F5.other W9 (.inr (sn89 W))).other W13 (Or.inl (nS P9))).other W17 (Or.inl (nS P9)))
  have f20 := ((F9.other W13 (Or.inl (nS P9))).other W17 (Or.inl (nS P9)))
  have f21 := (F13.other W17 (.inr (sn100 W)))
  exact gRetV b S17 d20_98 (own_le rfl) (own_le rfl) ⟨rfl, S17.f, S17.k, S17.kf, f18, f19, f20, f21, F17⟩
def Q_rm35_69 (Z : State) (ra1 ra2 ra3 ra4 ra5 ra6 ra7 ra8 : Addr) (ca9 : ClassId) (h0 : Heap) (n0 : Nat) (v : Option Value) (h : Heap) (L : List Loc) : Prop := v = none ∧ Fr n0 L ∧ Keep h0 h [ra7, ra2, ra1] ∧ KeepF h0 h [(ra7, some (sl12 Z)), (ra7, some (sl9 Z)), (ra2, some (sl12 Z)), (ra2, some (sl9 Z)), (ra1, some (sl1 Z)), (ra1, some (sl6 Z)), (ra1, some (sl2 Z))] ∧ Fld Z h ra7 ss1 ss3 "I" (.int (0 : Int32)) ∧ Fld Z h ra7 ss1 ss13 "I" (.int (-1 : Int32)) ∧ Fld Z h ra2 ss1 ss3 "I" (.int (1 : Int32)) ∧ Fld Z h ra2 ss1 ss13 "I" (.int (0 : Int32)) ∧ Fld Z h ra1 ss0 ss11 "I" (.int (-1 : Int32)) ∧ Fld Z h ra1 ss0 ss9 "I" (.int (-1 : Int32)) ∧ Fld Z h ra1 ss0 ss14 "I" (.int (1 : Int32))
theorem rm35_69 (W : Wd a0 Z) (I0 : IO Z n0 h0) {ra1 ra2 ra3 ra4 ra5 ra6 ra7 ra8 : Addr} {ca9 : ClassId} (P0 : Fld Z h0 ra1 ss0 ss15 ss16 (.ref ra3)) (P1 : Fld Z h0 ra1 ss0 ss9 "I" (.int (-1 : Int32))) (P2 : Fld Z h0 ra3 ss8 ss22 ss18 (.ref ra4)) (P3 : Fld Z h0 ra1 ss0 ss14 "I" (.int (0 : Int32))) (P4 : Exa Z h0 ra4 ss10) (P5 : Fld Z h0 ra4 ss10 ss19 ss20 (.ref ra5)) (P6 : Exa Z h0 ra5 ss2) (P7 : Fld Z h0 ra5 ss2 ss3 "I" (.int (3 : Int32))) (P8 : Fld Z h0 ra5 ss2 ss12 ss7 (.ref ra6)) (P9 : Arv Z h0 ra6 ca9 (.object ss4) (10 : Int32) [(.ref ra7), (.ref ra2), (.ref ra8), .null, .null, .null, .null, .null, .null, .null] .null) (P10 : Exa Z h0 ra7 ss1) (P11 : Fld Z h0 ra1 ss0 ss11 "I" (.int (-1 : Int32))) (P12 : Fld Z h0 ra7 ss1 ss13 "I" (.int (0 : Int32))) (P13 : n0 ≤ ra7) (P14 : Exa Z h0 ra1 ss0) (P15 : ra1 ≠ ra7) (P16 : ra3 ≠ ra7) (P17 : ra4 ≠ ra7) (P18 : ra5 ≠ ra7) (P19 : ra6 ≠ ra7) (P20 : Fld Z h0 ra7 ss1 ss3 "I" (.int (1 : Int32))) (P21 : Fld Z h0 ra2 ss1 ss15 ss16 (.ref ra3)) (P22 : Fld Z h0 ra1 ss0 ss17 "I" (.int (0 : Int32))) (P23 : Fld Z h0 ra2 ss1 ss17 "I" (.int (1 : Int32))) (P24 : n0 ≤ ra1) (P25 : Fld Z h0 ra2 ss1 ss13 "I" (.int (-1 : Int32))) (P26 : Exa Z h0 ra2 ss1) (P27 : ra2 ≠ ra1) (P28 : n0 ≤ ra2) (P29 : Fld Z h0 ra2 ss1 ss3 "I" (.int (0 : Int32))) (P30 : ra2 ≠ ra7) : OwnM l yy24 (.code yy24 k35_ 2 none) ⟨5, 0, 0, 66⟩ #[(.ref ra1), (.ref ra2)] Z h0 (Q_rm35_69 Z ra1 ra2 ra3 ra4 ra5 ra6 ra7 ra8 ca9 h0 n0) := by
  refine own_open [ra7, ra2, ra1] [(ra7, some (sl12 Z)), (ra7, some (sl9 Z)), (ra2, some (sl12 Z)), (ra2, some (sl9 Z)), (ra1, some (sl1 Z)), (ra1, some (sl6 Z)), (ra1, some (sl2 Z))] #[.val (.ref ra1), .val (.ref ra2)] (plainFor_of_name pn_5) I0 ?_
  intro p e s m below meth c T b S0
  refine gAl b S0 d35_0 rfl rfl 1 rfl ?_
  refine cS b S0 d35_1 (W 303 rfl) (W 304 rfl) (W 9 rfl) (W 305 rfl) (rm36_70 W S0.i P0 P1 P2 P3 P4 P5 P6 P7 P8 P9 P10 P11 P12 P13 P15 P16 P17 P18 P19 P20) (by decide) (lenOf pd_21 rfl) rfl [] rfl 0 (own_le rfl) rfl 4 rfl fun T1 L1 v1 X1 q1 => ?_
  obtain ⟨rfl, N1q, K1q, KF1q, R1_0, R1_1⟩ := q1
  have S1 := S0.call X1 N1q K1q KF1q (allS (.inl (mI 0 rfl)) all0) (fallS (.inl (mI 1 rfl)) (fallS (.inl (mI 0 rfl)) fall0)) (allS P13 all0)
  refine gRn ?_
  refine gAl b S1 d35_4 rfl rfl 5 rfl ?_
  refine gAl b S1 d35_5 rfl rfl 6 rfl ?_
  refine cS b S1 d35_6 (W 307 rfl) (W 184 rfl) (W 9 rfl) (W 185 rfl) (rm20_76 W S1.i (P21.keep K1q (ninS P30 nin0)) (P22.keep K1q (ninS P15 nin0)) (P23.keep K1q (ninS P30 nin0)) (P14.keep K1q) (P3.keep K1q (ninS P15 nin0)) P24 (P1.keep K1q (ninS P15 nin0)) (P25.keep K1q (ninS P30 nin0)) (P26.keep K1q) P27 (P11.keep K1q (ninS P15 nin0)) P28 (P29.keep K1q (ninS P30 nin0))) (by decide) (lenOf pd_12 rfl) rfl [] rfl 0 (own_le rfl) rfl 9 rfl fun T2 L2 v2 X2 q2 => ?_
  obtain ⟨rfl, N2q, K2q, KF2q, R2_0, R2_1, R2_2, R2_3, R2_4⟩ := q2
  have S2 := S1.call X2 N2q K2q KF2q (allS (.inl (mI 2 rfl)) (allS (.inl (mI 1 rfl)) all0)) (fallS (.inl (mI 6 rfl)) (fallS (.inl (mI 5 rfl)) (fallS (.inl (mI 4 rfl)) (fallS (.inl (mI 3 rfl)) (fallS (.inl (mI 2 rfl)) fall0))))) (allS P24 (allS P28 all0))
  refine gRn ?_
  have f3 := (R1_1.keep K2q (ninS (nS P15) (ninS (nS P30) nin0)))
  have f4 := (R1_0.keep K2q (ninS (nS P15) (ninS (nS P30) nin0)))
  exact gRetV b S2 d35_9 (own_le rfl) (own_le rfl) ⟨rfl, S2.f, S2.k, S2.kf, f3, f4, R2_4, R2_3, R2_2, R2_1, R2_0⟩
def Q_rm12_80 (Z : State) (ra1 ra2 ra3 ra4 : Addr) (ca5 : ClassId) (h0 : Heap) (n0 : Nat) (v : Option Value) (h : Heap) (L : List Loc) : Prop := v = none ∧ Fr n0 L ∧ Keep h0 h [ra3, ra1] ∧ KeepF h0 h [(ra3, none), (ra1, some (sl17 Z))] ∧ Arv Z h ra3 ca5 (.object ss4) (10 : Int32) [(.ref ra4), (.ref ra2), .null, .null, .null, .null, .null, .null, .null, .null] .null ∧ Fld Z h ra1 ss2 ss3 "I" (.int (2 : Int32))
theorem rm12_80 (W : Wd a0 Z) (I0 : IO Z n0 h0) {ra1 ra2 ra3 ra4 : Addr} {ca5 : ClassId} (P0 : Arv Z h0 ra3 ca5 (.object ss4) (10 : Int32) [(.ref ra4), .null, .null, .null, .null, .null, .null, .null, .null, .null] .null) (P1 : Ovr Z ca5 ss4) (P2 : Exa Z h0 ra2 ss0) (P3 : n0 ≤ ra3) (P4 : Exa Z h0 ra1 ss2) (P5 : Fld Z h0 ra1 ss2 ss3 "I" (.int (1 : Int32))) (P6 : ra1 ≠ ra3) (P7 : n0 ≤ ra1) : OwnM l yy44 (.code yy44 k12_ 4 none) ⟨0, 0, 0, 0⟩ #[(.ref ra1), (.ref ra2), (.ref ra3), (.int (1 : Int32))] Z h0 (Q_rm12_80 Z ra1 ra2 ra3 ra4 ca5 h0 n0) := by
  refine own_open [ra3, ra1] [(ra3, none), (ra1, some (sl17 Z))] #[.val (.ref ra1), .val (.ref ra2), .val (.ref ra3), .val (.int (1 : Int32))] (plainFor_of_name pn_3) I0 ?_
  intro p e s m below meth c T b S0
  refine gIl b S0 d12_0 rfl 1 rfl ?_
  refine gAl b S0 d12_1 rfl rfl 2 rfl ?_
  refine gLen b S0 d12_2 P0 3 rfl ?_
  refine gIcY b S0 d12_3 rfl 11 (by decide) rfl ?_
  refine gAl b S0 d12_11 rfl rfl 12 rfl ?_
  refine gIl b S0 d12_12 rfl 13 rfl ?_
  refine gAl b S0 d12_13 rfl rfl 14 rfl ?_
  refine gAast b S0 d12_14 P0 P1 (Ins.of_exa P2 (W 168 rfl)) (by decide) (by decide) 1 rfl (own_le rfl) P3 (.inl ⟨mI 0 rfl, mI 0 rfl⟩) [(.ref ra4), (.ref ra2), .null, .null, .null, .null, .null, .null, .null, .null] rfl 15 rfl fun T1 h1 W1 V1 S1 => ?_
  refine gAl b S1 d12_15 rfl rfl 16 rfl ?_
  refine gIl b S1 d12_16 rfl 17 rfl ?_
  refine gIc b S1 d12_17 1 rfl 18 rfl ?_
  refine gAdd b S1 d12_18 2 rfl 19 rfl ?_
  refine gPf (host := "") b S1 .int d12_19 (.inl (W 102 rfl)) Via.refl (P5.other W1 (Or.inl P6)) (P4.wr W1) (.inl (W 103 rfl)) (W 22 rfl) pf2 rfl rfl P7 (.inl ⟨mI 1 rfl, mI 1 rfl⟩) 22 rfl fun T2 h2 W2 F2 S2 => ?_
  exact gRetV b S2 d12_22 (own_le rfl) (own_le rfl) ⟨rfl, S2.f, S2.k, S2.kf, (V1.other W2 (nS P6)), F2⟩
def Q_rm11_79 (Z : State) (ra1 ra2 ra3 ra4 : Addr) (ca5 : ClassId) (h0 : Heap) (n0 : Nat) (v : Option Value) (h : Heap) (L : List Loc) : Prop := v = some (.int (1 : Int32)) ∧ Fr n0 L ∧ Keep h0 h [ra1, ra3] ∧ KeepF h0 h [(ra1, some (sl23 Z)), (ra1, some (sl17 Z)), (ra3, none)] ∧ Fld Z h ra1 ss5 ss6 "I" (.int (2 : Int32)) ∧ Fld Z h ra1 ss2 ss3 "I" (.int (2 : Int32)) ∧ Arv Z h ra3 ca5 (.object ss4) (10 : Int32) [(.ref ra4), (.ref ra2), .null, .null, .null, .null, .null, .null, .null, .null] .null
theorem rm11_79 (W : Wd a0 Z) (I0 : IO Z n0 h0) {ra1 ra2 ra3 ra4 : Addr} {ca5 : ClassId} (P0 : Fld Z h0 ra1 ss5 ss6 "I" (.int (1 : Int32))) (P1 : Exa Z h0 ra1 ss2) (P2 : n0 ≤ ra1) (P3 : Fld Z h0 ra1 ss2 ss12 ss7 (.ref ra3)) (P4 : Fld Z h0 ra1 ss2 ss3 "I" (.int (1 : Int32))) (P5 : Arv Z h0 ra3 ca5 (.object ss4) (10 : Int32) [(.ref ra4), .null, .null, .null, .null, .null, .null, .null, .null, .null] .null) (P6 : Ovr Z ca5 ss4) (P7 : Exa Z h0 ra2 ss0) (P8 : n0 ≤ ra3) (P9 : ra1 ≠ ra3) : OwnM l yy43 (.code yy43 k11_ 2 (some .boolean)) ⟨1, 0, 0, 15⟩ #[(.ref ra1), (.ref ra2)] Z h0 (Q_rm11_79 Z ra1 ra2 ra3 ra4 ca5 h0 n0) := by
  refine own_open [ra1, ra3] [(ra1, some (sl23 Z)), (ra1, some (sl17 Z)), (ra3, none)] #[.val (.ref ra1), .val (.ref ra2)] (plainFor_of_name pn_3) I0 ?_
  intro p e s m below meth c T b S0
  refine gAl b S0 d11_0 rfl rfl 1 rfl ?_
  refine gDup b S0 d11_1 rfl 2 rfl ?_
  refine gGf (host := "") b S0 d11_2 (.inl (W 100 rfl)) (Via.of (W 101 rfl)) P0 5 rfl fun T1 S1 => ?_
  refine gIc b S1 d11_5 1 rfl 6 rfl ?_
  refine gAdd b S1 d11_6 2 rfl 7 rfl ?_
  refine gPf (host := "") b S1 .int d11_7 (.inl (W 100 rfl)) (Via.of (W 101 rfl)) P0 P1 (.inl (W 41 rfl)) (W 22 rfl) pf2 rfl rfl P2 (.inl ⟨mI 0 rfl, mI 0 rfl⟩) 10 rfl fun T2 h2 W2 F2 S2 => ?_
  refine gAl b S2 d11_10 rfl rfl 11 rfl ?_
  refine gAl b S2 d11_11 rfl rfl 12 rfl ?_
  refine gAl b S2 d11_12 rfl rfl 13 rfl ?_
  refine gGf (host := "") b S2 d11_13 (.inl (W 43 rfl)) Via.refl (P3.other W2 (.inr (sn0 W))) 16 rfl fun T3 S3 => ?_
  refine gAl b S3 d11_16 rfl rfl 17 rfl ?_
  refine gGf (host := "") b S3 d11_17 (.inl (W 102 rfl)) Via.refl (P4.other W2 (.inr (sn5 W))) 20 rfl fun T4 S4 => ?_
  refine cP b S4 d11_20 (W 104 rfl) (W 105 rfl) (fun hZ => (mvT hZ (W 107 rfl))) (W 106 rfl) (W 23 rfl) (W 108 rfl) (rm12_80 W S4.i (P5.other W2 (nS P9)) P6 (P7.wr W2) P8 (P1.wr W2) (P4.other W2 (.inr (sn5 W))) P9 P2) (P1.wr W2) (by decide) (lenOf pd_5 rfl) rfl [] rfl 0 (own_le rfl) rfl 23 rfl fun T5 L5 v5 X5 q5 => ?_
  obtain ⟨rfl, N5q, K5q, KF5q, R5_0, R5_1⟩ := q5
  have S5 := S4.call X5 N5q K5q KF5q (allS (.inl (mI 1 rfl)) (allS (.inl (mI 0 rfl)) all0)) (fallS (.inl (mI 2 rfl)) (fallS (.inl (mI 1 rfl)) fall0)) (allS P8 (allS P2 all0))
  refine gRn ?_
  refine gIc b S5 d11_23 1 rfl 24 rfl ?_
  have f6 := (F2.kf K5q KF5q (nofA P9 (nofB (sn41 W) nof0)))
  exact gRetZ b S5 d11_24 (own_le rfl) (own_le rfl) ⟨rfl, S5.f, S5.k, S5.kf, f6, R5_1, R5_0⟩
def Q_rm10_78 (Z : State) (ra1 ra2 ra3 ra4 ra5 : Addr) (ca6 : ClassId) (h0 : Heap) (n0 : Nat) (v : Option Value) (h : Heap) (L : List Loc) : Prop := v = some (.int (1 : Int32)) ∧ Fr n0 L ∧ Keep h0 h [ra4, ra3] ∧ KeepF h0 h [(ra4, none), (ra3, some (sl17 Z)), (ra3, some (sl23 Z))] ∧ Arv Z h ra4 ca6 (.object ss4) (10 : Int32) [(.ref ra5), (.ref ra2), .null, .null, .null, .null, .null, .null, .null, .null] .null ∧ Fld Z h ra3 ss2 ss3 "I" (.int (2 : Int32)) ∧ Fld Z h ra3 ss5 ss6 "I" (.int (2 : Int32))
theorem rm10_78 (W : Wd a0 Z) (I0 : IO Z n0 h0) {ra1 ra2 ra3 ra4 ra5 : Addr} {ca6 : ClassId} (P0 : Fld Z h0 ra1 ss10 ss26 "I" (.int (0 : Int32))) (P1 : Fld Z h0 ra1 ss10 ss19 ss20 (.ref ra3)) (P2 : Exa Z h0 ra3 ss2) (P3 : Fld Z h0 ra3 ss5 ss6 "I" (.int (1 : Int32))) (P4 : n0 ≤ ra3) (P5 : Fld Z h0 ra3 ss2 ss12 ss7 (.ref ra4)) (P6 : Fld Z h0 ra3 ss2 ss3 "I" (.int (1 : Int32))) (P7 : Arv Z h0 ra4 ca6 (.object ss4) (10 : Int32) [(.ref ra5), .null, .null, .null, .null, .null, .null, .null, .null, .null] .null) (P8 : Ovr Z ca6 ss4) (P9 : Exa Z h0 ra2 ss0) (P10 : n0 ≤ ra4) (P11 : ra3 ≠ ra4) (P12 : ra1 ≠ ra4) (P13 : ra1 ≠ ra3) : OwnM l yy34 (.code yy34 k10_ 3 (some .int)) ⟨2, 0, 0, 28⟩ #[(.ref ra1), (.ref ra2)] Z h0 (Q_rm10_78 Z ra1 ra2 ra3 ra4 ra5 ca6 h0 n0) := by
  refine own_open [ra4, ra3] [(ra4, none), (ra3, some (sl17 Z)), (ra3, some (sl23 Z))] #[.val (.ref ra1), .val (.ref ra2), .unset] (plainFor_of_name pn_4) I0 ?_
  intro p e s m below meth c T b S0
  refine gAl b S0 d10_0 rfl rfl 1 rfl ?_
  refine gGf (host := "") b S0 d10_1 (.inl (W 89 rfl)) Via.refl P0 4 rfl fun T1 S1 => ?_
  refine gIfN b S1 d10_4 rfl 7 rfl ?_
  refine gAl b S1 d10_7 rfl rfl 8 rfl ?_
  refine gGf (host := "") b S1 d10_8 (.inl (W 45 rfl)) Via.refl P1 11 rfl fun T2 S2 => ?_
  refine gAl b S2 d10_11 rfl rfl 12 rfl ?_
  refine cI (xi := yy58) b S2 d10_12 (W 91 rfl) (W 92 rfl) (fun hZ => mvT hZ (W 93 rfl)) (W 94 rfl) (W 95 rfl) (W 96 rfl) (W 97 rfl) (W 98 rfl) (W 23 rfl) (W 99 rfl) (rm11_79 W S2.i P3 P2 P4 P5 P6 P7 P8 P9 P10 P11) P2 (by decide) (lenOf pd_6 rfl) rfl [] rfl 0 (own_le rfl) rfl 17 rfl fun T3 L3 v3 X3 q3 => ?_
  obtain ⟨rfl, N3q, K3q, KF3q, R3_0, R3_1, R3_2⟩ := q3
  have S3 := S2.call X3 N3q K3q KF3q (allS (.inl (mI 1 rfl)) (allS (.inl (mI 0 rfl)) all0)) (fallS (.inl (mI 2 rfl)) (fallS (.inl (mI 1 rfl)) (fallS (.inl (mI 0 rfl)) fall0))) (allS P4 (allS P10 all0))
  refine gRv ?_
  refine gPop b S3 d10_17 rfl 18 rfl ?_
  refine gAl b S3 d10_18 rfl rfl 19 rfl ?_
  have f4 := (P1.keep K3q (ninS P13 (ninS P12 nin0)))
  refine gGf (host := "") b S3 d10_19 (.inl (W 45 rfl)) Via.refl f4 22 rfl fun T5 S5 => ?_
  refine cI (xi := yy62) b S5 d10_22 (W 126 rfl) (W 127 rfl) (fun hZ => mvT hZ (W 128 rfl)) (W 129 rfl) (W 130 rfl) (W 131 rfl) (W 132 rfl) (W 98 rfl) (W 23 rfl) (W 133 rfl) (rm16_56 W S5.i R3_1) (P2.keep K3q) (by decide) (lenOf pd_7 rfl) rfl [] rfl 0 (own_le rfl) rfl 27 rfl fun T6 L6 v6 X6 q6 => ?_
  obtain ⟨rfl, N6q, e6⟩ := q6
  have S6 := S5.same X6 N6q e6
  refine gRv ?_
  refine gIc b S6 d10_27 1 rfl 28 rfl ?_
  refine gSub b S6 d10_28 1 rfl 29 rfl ?_
  exact gRetI b S6 d10_29 (own_le rfl) (own_le rfl) ⟨rfl, S6.f, S6.k, S6.kf, R3_2, R3_1, R3_0⟩
def Q_rm20_77 (Z : State) (ra1 ra2 ra3 ra4 ra5 ra6 ra7 : Addr) (ca8 : ClassId) (h0 : Heap) (n0 : Nat) (v : Option Value) (h : Heap) (L : List Loc) : Prop := v = none ∧ Fr n0 L ∧ Keep h0 h [ra1, ra5, ra6, ra2] ∧ KeepF h0 h [(ra1, some (sl3 Z)), (ra5, some (sl23 Z)), (ra5, some (sl17 Z)), (ra6, none), (ra1, some (sl4 Z)), (ra1, some (sl2 Z)), (ra1, some (sl6 Z)), (ra1, some (sl1 Z)), (ra2, some (sl9 Z)), (ra2, some (sl12 Z))] ∧ Fld Z h ra1 ss0 ss15 ss16 (.ref ra3) ∧ Fld Z h ra5 ss5 ss6 "I" (.int (2 : Int32)) ∧ Fld Z h ra5 ss2 ss3 "I" (.int (2 : Int32)) ∧ Arv Z h ra6 ca8 (.object ss4) (10 : Int32) [(.ref ra7), (.ref ra1), .null, .null, .null, .null, .null, .null, .null, .null] .null ∧ Fld Z h ra1 ss0 ss17 "I" (.int (1 : Int32)) ∧ Fld Z h ra1 ss0 ss14 "I" (.int (2 : Int32)) ∧ Fld Z h ra1 ss0 ss9 "I" (.int (-1 : Int32)) ∧ Fld Z h ra1 ss0 ss11 "I" (.int (-1 : Int32)) ∧ Fld Z h ra2 ss1 ss13 "I" (.int (1 : Int32)) ∧ Fld Z h ra2 ss1 ss3 "I" (.int (1 : Int32))
theorem rm20_77 (W : Wd a0 Z) (I0 : IO Z n0 h0) {ra1 ra2 ra3 ra4 ra5 ra6 ra7 : Addr} {ca8 : ClassId} (P0 : Fld Z h0 ra2 ss1 ss15 ss16 (.ref ra3)) (P1 : Fld Z h0 ra1 ss0 ss17 "I" (.int (-1 : Int32))) (P2 : Exa Z h0 ra1 ss0) (P3 : Fld Z h0 ra1 ss0 ss15 ss16 .null) (P4 : n0 ≤ ra1) (P5 : Fld Z h0 ra3 ss8 ss31 ss18 (.ref ra4)) (P6 : ra3 ≠ ra1) (P7 : Exa Z h0 ra4 ss10) (P8 : Fld Z h0 ra4 ss10 ss26 "I" (.int (0 : Int32))) (P9 : Fld Z h0 ra4 ss10 ss19 ss20 (.ref ra5)) (P10 : Exa Z h0 ra5 ss2) (P11 : Fld Z h0 ra5 ss5 ss6 "I" (.int (1 : Int32))) (P12 : n0 ≤ ra5) (P13 : Fld Z h0 ra5 ss2 ss12 ss7 (.ref ra6)) (P14 : Fld Z h0 ra5 ss2 ss3 "I" (.int (1 : Int32))) (P15 : Arv Z h0 ra6 ca8 (.object ss4) (10 : Int32) [(.ref ra7), .null, .null, .null, .null, .null, .null, .null, .null, .null] .null) (P16 : Ovr Z ca8 ss4) (P17 : n0 ≤ ra6) (P18 : ra5 ≠ ra6) (P19 : ra4 ≠ ra6) (P20 : ra4 ≠ ra5) (P21 : ra4 ≠ ra1) (P22 : ra5 ≠ ra1) (P23 : ra6 ≠ ra1) (P24 : Fld Z h0 ra2 ss1 ss17 "I" (.int (2 : Int32))) (P25 : Exa Z h0 ra2 ss1) (P26 : ra2 ≠ ra1) (P27 : ra2 ≠ ra5) (P28 : ra2 ≠ ra6) (P29 : Fld Z h0 ra1 ss0 ss14 "I" (.int (-1 : Int32))) (P30 : Fld Z h0 ra1 ss0 ss9 "I" (.int (-1 : Int32))) (P31 : Fld Z h0 ra2 ss1 ss13 "I" (.int (-1 : Int32))) (P32 : Fld Z h0 ra1 ss0 ss11 "I" (.int (-1 : Int32))) (P33 : n0 ≤ ra2) (P34 : Fld Z h0 ra2 ss1 ss3 "I" (.int (0 : Int32))) : OwnM l yy21 (.code yy21 k20_ 3 none) ⟨3, 0, 0, 43⟩ #[(.ref ra1), (.ref ra2)] Z h0 (Q_rm20_77 Z ra1 ra2 ra3 ra4 ra5 ra6 ra7 ca8 h0 n0) := by
  refine own_open [ra1, ra5, ra6, ra2] [(ra1, some (sl3 Z)), (ra5, some (sl23 Z)), (ra5, some (sl17 Z)), (ra6, none), (ra1, some (sl4 Z)), (ra1, some (sl2 Z)), (ra1, some (sl6 Z)), (ra1, some (sl1 Z)), (ra2, some (sl9 Z)), (ra2, some (sl12 Z))] #[.val (.ref ra1), .val (.ref ra2), .unset] (plainFor_of_name pn_5) I0 ?_
  intro p e s m below meth c T b S0
  refine gAl b S0 d20_0 rfl rfl 1 rfl ?_
  refine gGfR b S0 d20_1 (W 186 rfl) Via.refl P0 4 rfl fun T1 S1 => ?_
  refine gAs b S1 d20_4 rfl #[.val (.ref ra1), .val (.ref ra2), .val (.ref ra3)] rfl 5 rfl ?_
  refine gAl b S1 d20_5 rfl rfl 6 rfl ?_
  refine gGfR b S1 d20_6 (W 187 rfl) Via.refl P1 9 rfl fun T2 S2 => ?_
  refine gIc b S2 d20_9 (-1) rfl 10 rfl ?_
  refine gIcN b S2 d20_10 rfl 13 rfl ?_
  refine gAl b S2 d20_13 rfl rfl 14 rfl ?_
  refine gAl b S2 d20_14 rfl rfl 15 rfl ?_
  refine gPfR b S2 (.object ss8) d20_15 (W 188 rfl) Via.refl P3 P2 (W 189 rfl) (W 139 rfl) pf5 rfl rfl P4 (.inl ⟨mI 0 rfl, mI 0 rfl⟩) 18 rfl fun T3 h3 W3 F3 S3 => ?_
  refine gAl b S3 d20_18 rfl rfl 19 rfl ?_
  refine gAl b S3 d20_19 rfl rfl 20 rfl ?_
  refine gGf (host := "") b S3 d20_20 (.inl (W 50 rfl)) Via.refl (P5.other W3 (Or.inl P6)) 23 rfl fun T4 S4 => ?_
  refine gAl b S4 d20_23 rfl rfl 24 rfl ?_
  refine cV b S4 d20_24 (W 84 rfl) (W 85 rfl) (W 87 rfl) (W 86 rfl) (W 16 rfl) (W 88 rfl) (rm10_78 W S4.i (P8.other W3 (Or.inl P21)) (P9.other W3 (Or.inl P21)) (P10.wr W3) (P11.other W3 (Or.inl P22)) P12 (P13.other W3 (Or.inl P22)) (P14.other W3 (Or.inl P22)) (P15.other W3 P23) P16 (P2.wr W3) P17 P18 P19 P20) (P7.wr W3) (by decide) (lenOf pd_8 rfl) rfl [(.ref ra1)] rfl 1 (own_le rfl) rfl 27 rfl fun T5 L5 v5 X5 q5 => ?_
  obtain ⟨rfl, N5q, K5q, KF5q, R5_0, R5_1, R5_2⟩ := q5
  have S5 := S4.call X5 N5q K5q KF5q (allS (.inl (mI 2 rfl)) (allS (.inl (mI 1 rfl)) all0)) (fallS (.inl (mI 3 rfl)) (fallS (.inl (mI 2 rfl)) (fallS (.inl (mI 1 rfl)) fall0))) (allS P17 (allS P12 all0))
  refine gRv ?_
  have f6 := ((P1.other W3 (.inr (sn92 W))).keep K5q (ninS (nS P23) (ninS (nS P22) nin0)))
  refine gPfR b S5 .int d20_27 (W 187 rfl) Via.refl f6 ((P2.wr W3).keep K5q) (W 154 rfl) (W 139 rfl) pf2 rfl rfl P4 (.inl ⟨mI 0 rfl, mI 4 rfl⟩) 30 rfl fun T7 h7 W7 F7 S7 => ?_
  refine gAl b S7 d20_30 rfl rfl 31 rfl ?_
  refine gAl b S7 d20_31 rfl rfl 32 rfl ?_
  have f8 := (((P24.other W3 (Or.inl P26)).keep K5q (ninS P28 (ninS P27 nin0))).other W7 (Or.inl P26))
  refine gGfR b S7 d20_32 (W 134 rfl) Via.refl f8 35 rfl fun T9 S9 => ?_
  have f10 := (((P29.other W3 (.inr (sn93 W))).keep K5q (ninS (nS P23) (ninS (nS P22) nin0))).other W7 (.inr (sn72 W)))
  refine gPfR b S9 .int d20_35 (W 190 rfl) Via.refl f10 (((P2.wr W3).keep K5q).wr W7) (W 156 rfl) (W 139 rfl) pf2 rfl rfl P4 (.inl ⟨mI 0 rfl, mI 5 rfl⟩) 38 rfl fun T11 h11 W11 F11 S11 => ?_
  refine gAl b S11 d20_38 rfl rfl 39 rfl ?_
  refine gIc b S11 d20_39 (-1) rfl 40 rfl ?_
  have f12 := ((((P30.other W3 (.inr (sn94 W))).keep K5q (ninS (nS P23) (ninS (nS P22) nin0))).other W7 (.inr (sn73 W))).other W11 (.inr (sn74 W)))
  have f13 := ((((P2.wr W3).keep K5q).wr W7).wr W11)
  refine gPfR b S11 .int d20_40 (W 191 rfl) Via.refl f12 f13 (W 158 rfl) (W 139 rfl) pf2 rfl rfl P4 (.inl ⟨mI 0 rfl, mI 6 rfl⟩) 43 rfl fun T14 h14 W14 F14 S14 => ?_
  refine gAl b S14 d20_43 rfl rfl 44 rfl ?_
  refine gAl b S14 d20_44 rfl rfl 45 rfl ?_
  have f15 := (((((P31.other W3 (Or.inl P26)).keep K5q (ninS P28 (ninS P27 nin0))).other W7 (Or.inl P26)).other W11 (Or.inl P26)).other W14 (Or.inl P26))
  refine gGfR b S14 d20_45 (W 192 rfl) Via.refl f15 48 rfl fun T16 S16 => ?_
  have f17 := (((((P32.other W3 (.inr (sn95 W))).keep K5q (ninS (nS P23) (ninS (nS P22) nin0))).other W7 (.inr (sn75 W))).other W11 (.inr (sn76 W))).other W14 (.inr (sn77 W)))
  refine gPfR b S16 .int d20_48 (W 193 rfl) Via.refl f17 (f13.wr W14) (W 160 rfl) (W 139 rfl) pf2 rfl rfl P4 (.inl ⟨mI 0 rfl, mI 7 rfl⟩) 51 rfl fun T18 h18 W18 F18 S18 => ?_
  refine gAl b S18 d20_51 rfl rfl 52 rfl ?_
  refine gGfR b S18 d20_52 (W 192 rfl) Via.refl (f15.other W18 (Or.inl P26)) 55 rfl fun T19 S19 => ?_
  refine gIc b S19 d20_55 (-1) rfl 56 rfl ?_
  refine gIcY b S19 d20_56 rfl 80 (by decide) rfl ?_
  refine gAl b S19 d20_80 rfl rfl 81 rfl ?_
  refine gAl b S19 d20_81 rfl rfl 82 rfl ?_
  have f20 := (((F7.other W11 (.inr (sn82 W))).other W14 (.inr (sn83 W))).other W18 (.inr (sn84 W)))
  refine gGfR b S19 d20_82 (W 187 rfl) Via.refl f20 85 rfl fun T21 S21 => ?_
  have f22 := ((((((P25.wr W3).keep K5q).wr W7).wr W11).wr W14).wr W18)
  refine gPfR b S21 .int d20_85 (W 192 rfl) Via.refl (f15.other W18 (Or.inl P26)) f22 (W 75 rfl) (W 68 rfl) pf2 rfl rfl P33 (.inl ⟨mI 3 rfl, mI 8 rfl⟩) 88 rfl fun T23 h23 W23 F23 S23 => ?_
  refine gAl b S23 d20_88 rfl rfl 89 rfl ?_
  refine gDup b S23 d20_89 rfl 90 rfl ?_
  have f24 := (((((((P34.other W3 (Or.inl P26)).keep K5q (ninS P28 (ninS P27 nin0))).other W7 (Or.inl P26)).other W11 (Or.inl P26)).other W14 (Or.inl P26)).other W18 (Or.inl P26)).other W23 (.inr (sn51 W)))
  refine gGfR b S23 d20_90 (W 194 rfl) Via.refl f24 93 rfl fun T25 S25 => ?_
  refine gIc b S25 d20_93 1 rfl 94 rfl ?_
  refine gAdd b S25 d20_94 1 rfl 95 rfl ?_
  refine gPfR b S25 .int d20_95 (W 194 rfl) Via.refl f24 (f22.wr W23) (W 195 rfl) (W 68 rfl) pf2 rfl rfl P33 (.inl ⟨mI 3 rfl, mI 9 rfl⟩) 98 rfl fun T26 h26 W26 F26 S26 => ?_
  have f27 := (((((((F3.keep K5q (ninS (nS P23) (ninS (nS P22) nin0))).other W7 (.inr (sn96 W))).other W11 (.inr (sn97 W))).other W14 (.inr (sn98 W))).other W18 (.inr (sn99 W))).other W23 (Or.inl (nS P26))).other W26 (Or.inl (nS P26)))
  have f28 := ((((((R5_2.other W7 (Or.inl P22)).other W11 (Or.inl P22)).other W14 (Or.inl P22)).other W18 (Or.inl P22)).other W23 (Or.inl (nS P27))).other W26 (Or.inl (nS P27)))
  have f29 := ((((((R5_1.other W7 (Or.inl P22)).other W11 (Or.inl P22)).other W14 (Or.inl P22)).other W18 (Or.inl P22)).other W23 (Or.inl (nS P27))).other W26 (Or.inl (nS P27)))
  have f30 := ((((((R5_0.other W7 P23).other W11 P23).other W14 P23).other W18 P23).other W23 (nS P28)).other W26 (nS P28))
  have f31 := ((f20.other W23 (Or.inl (nS P26))).other W26 (Or.inl (nS P26)))
  have f32 := ((((F11.other W14 (.inr (sn86 W))).other W18 (.inr (sn87 W))).other W23 (Or.inl (nS P26))).other W26 (Or.inl (nS P26)))
  have f33 := (((F14.other W18 (.inr (sn89 W))).other W23 (Or.inl (nS P26))).other W26 (Or.inl (nS P26)))
  have f34 := ((F18.other W23 (Or.inl (nS P26))).other W26 (Or.inl (nS P26)))
  have f35 := (F23.other W26 (.inr (sn100 W)))
  exact gRetV b S26 d20_98 (own_le rfl) (own_le rfl) ⟨rfl, S26.f, S26.k, S26.kf, f27, f28, f29, f30, f31, f32, f33, f34, f35, F26⟩
def Q_rm42_49 (Z : State) (ra1 ra2 ra3 ra4 ra5 ra6 ra7 ra9 ra10 ra11 ra12 ra13 : Addr) (ca8 ca14 : ClassId) (h0 : Heap) (n0 : Nat) (v : Option Value) (h : Heap) (L : List Loc) : Prop := ∃ nw1 : Addr, ∃ nw2 : Addr, v = none ∧ Fr n0 L ∧ Keep h0 h [ra1, ra5, ra6, ra13, ra7, ra12, ra11, ra2] ∧ KeepF h0 h [(ra1, some (sl24 Z)), (ra1, some (sl26 Z)), (ra5, some (sl23 Z)), (ra5, some (sl17 Z)), (ra6, none), (ra13, some (sl2 Z)), (ra13, some (sl6 Z)), (ra13, some (sl1 Z)), (ra7, some (sl9 Z)), (ra7, some (sl12 Z)), (ra2, some (sl1 Z)), (ra2, some (sl6 Z)), (ra2, some (sl2 Z)), (ra2, some (sl4 Z)), (ra12, none), (ra11, some (sl17 Z)), (ra11, some (sl23 Z)), (ra2, some (sl3 Z))] ∧ h0.size ≤ nw1 ∧ h0.size ≤ nw2 ∧ Fld Z h ra1 ss8 "last" "I" (.int (2 : Int32)) ∧ Fld Z h ra1 ss8 ss24 "I" (.int (1 : Int32)) ∧ Fld Z h ra5 ss5 ss6 "I" (.int (3 : Int32)) ∧ Fld Z h ra5 ss2 ss3 "I" (.int (3 : Int32)) ∧ Arv Z h ra6 ca8 (.object ss4) (10 : Int32) [(.ref ra7), (.ref nw1), (.ref nw2), .null, .null, .null, .null, .null, .null, .null] .null ∧ Fld Z h ra13 ss0 ss14 "I" (.int (1 : Int32)) ∧ Fld Z h ra13 ss0 ss9 "I" (.int (-1 : Int32)) ∧ Fld Z h ra13 ss0 ss11 "I" (.int (-1 : Int32)) ∧ Fld Z h ra7 ss1 ss13 "I" (.int (-1 : Int32)) ∧ Fld Z h ra7 ss1 ss3 "I" (.int (0 : Int32)) ∧ Fld Z h ra2 ss0 ss11 "I" (.int (-1 : Int32)) ∧ Fld Z h ra2 ss0 ss9 "I" (.int (-1 : Int32)) ∧ Fld Z h ra2 ss0 ss14 "I" (.int (2 : Int32)) ∧ Fld Z h ra2 ss0 ss17 "I" (.int (1 : Int32)) ∧ Arv Z h ra12 ca14 (.object ss4) (10 : Int32) [(.ref ra13), (.ref ra2), .null, .null, .null, .null, .null, .null, .null, .null] .null ∧ Fld Z h ra11 ss2 ss3 "I" (.int (2 : Int32)) ∧ Fld Z h ra11 ss5 ss6 "I" (.int (2 : Int32)) ∧ Fld Z h ra2 ss0 ss15 ss16 (.ref ra1) ∧ Exa Z h nw1 ss1 ∧ Fld Z h nw1 ss1 ss17 "I" (.int (1 : Int32)) ∧ Fld Z h nw1 ss1 ss21 "I" (.int (0 : Int32)) ∧ Fld Z h nw1 ss1 ss9 "I" (.int (-1 : Int32)) ∧ Fld Z h nw1 ss1 ss15 ss16 (.ref ra1) ∧ Fld Z h nw1 ss1 "kind" ss27 (.ref ra3) ∧ Fld Z h nw1 ss1 ss11 "I" (.int (2 : Int32)) ∧ Fld Z h nw1 ss1 ss3 "I" (.int (1 : Int32)) ∧ Fld Z h nw1 ss1 ss13 "I" (.int (0 : Int32)) ∧ Exa Z h nw2 ss1 ∧ Fld Z h nw2 ss1 ss17 "I" (.int (2 : Int32)) ∧ Fld Z h nw2 ss1 ss21 "I" (.int (0 : Int32)) ∧ Fld Z h nw2 ss1 ss9 "I" (.int (1 : Int32)) ∧ Fld Z h nw2 ss1 ss11 "I" (.int (-1 : Int32)) ∧ Fld Z h nw2 ss1 ss15 ss16 (.ref ra1) ∧ Fld Z h nw2 ss1 "kind" ss27 (.ref ra9) ∧ Fld Z h nw2 ss1 ss13 "I" (.int (1 : Int32)) ∧ Fld Z h nw2 ss1 ss3 "I" (.int (1 : Int32)) ∧ nw2 ≠ nw1
theorem rm42_49 (W : Wd a0 Z) (I0 : IO Z n0 h0) {ra1 ra2 ra3 ra4 ra5 ra6 ra7 ra9 ra10 ra11 ra12 ra13 : Addr} {ca8 ca14 : ClassId} (P0 : Sta Z Z.heap ss32 "A" ss33 (.ref ra3)) (P1 : Exa Z h0 ra1 ss28) (P2 : Fld Z h0 ra1 ss8 ss22 ss18 (.ref ra4)) (P3 : Fld Z h0 ra1 ss8 "last" "I" (.int (-1 : Int32))) (P4 : Exa Z h0 ra4 ss10) (P5 : Fld Z h0 ra4 ss10 ss26 "I" (.int (0 : Int32))) (P6 : Fld Z h0 ra4 ss10 ss19 ss20 (.ref ra5)) (P7 : Exa Z h0 ra5 ss2) (P8 : Fld Z h0 ra5 ss5 ss6 "I" (.int (1 : Int32))) (P9 : n0 ≤ ra5) (P10 : Fld Z h0 ra5 ss2 ss12 ss7 (.ref ra6)) (P11 : Fld Z h0 ra5 ss2 ss3 "I" (.int (1 : Int32))) (P12 : Arv Z h0 ra6 ca8 (.object ss4) (10 : Int32) [(.ref ra7), .null, .null, .null, .null, .null, .null, .null, .null, .null] .null) (P13 : Ovr Z ca8 ss4) (P14 : n0 ≤ ra6) (P15 : ra5 ≠ ra6) (P16 : ra4 ≠ ra6) (P17 : ra4 ≠ ra5) (P18 : Fld Z h0 ra1 ss8 ss24 "I" (.int (-1 : Int32))) (P19 : ra1 ≠ ra6) (P20 : ra1 ≠ ra5) (P21 : n0 ≤ ra1) (P22 : Sta Z Z.heap ss32 "B" ss33 (.ref ra9)) (P23 : ra4 ≠ ra1) (P24 : Fld Z h0 ra1 ss28 ss34 ss35 (.ref ra7)) (P25 : Exa Z h0 ra7 ss1) (P26 : Fld Z h0 ra7 ss1 ss21 "I" (.int (1 : Int32))) (P27 : ra7 ≠ ra1) (P28 : ra7 ≠ ra5) (P29 : ra7 ≠ ra6) (P30 : Fld Z h0 ra7 ss1 ss15 ss16 (.ref ra1)) (P31 : Fld Z h0 ra1 ss8 ss31 ss18 (.ref ra10)) (P32 : Fld Z h0 ra7 ss1 ss13 "I" (.int (0 : Int32))) (P33 : Exa Z h0 ra10 ss10) (P34 : Fld Z h0 ra10 ss10 ss19 ss20 (.ref ra11)) (P35 : Exa Z h0 ra11 ss2) (P36 : Fld Z h0 ra11 ss2 ss3 "I" (.int (1 : Int32))) (P37 : Fld Z h0 ra11 ss2 ss12 ss7 (.ref ra12)) (P38 : Arv Z h0 ra12 ca14 (.object ss4) (10 : Int32) [(.ref ra13), .null, .null, .null, .null, .null, .null, .null, .null, .null] .null) (P39 : Exa Z h0 ra13 ss0) (P40 : ra10 ≠ ra1) (P41 : ra10 ≠ ra5) (P42 : ra10 ≠ ra6) (P43 : ra11 ≠ ra1) (P44 : ra11 ≠ ra5) (P45 : ra11 ≠ ra6) (P46 : ra12 ≠ ra1) (P47 : ra12 ≠ ra5) (P48 : ra12 ≠ ra6) (P49 : Fld Z h0 ra13 ss0 ss15 ss16 (.ref ra1)) (P50 : Fld Z h0 ra13 ss0 ss9 "I" (.int (-1 : Int32))) (P51 : Fld Z h0 ra13 ss0 ss14 "I" (.int (0 : Int32))) (P52 : Fld Z h0 ra13 ss0 ss11 "I" (.int (-1 : Int32))) (P53 : n0 ≤ ra7) (P54 : ra13 ≠ ra7) (P55 : ra4 ≠ ra7) (P56 : Fld Z h0 ra7 ss1 ss3 "I" (.int (1 : Int32))) (P57 : Fld Z h0 ra13 ss0 ss17 "I" (.int (0 : Int32))) (P58 : n0 ≤ ra13) (P59 : ra13 ≠ ra1) (P60 : ra13 ≠ ra5) (P61 : ra13 ≠ ra6) (P62 : Fld Z h0 ra2 ss0 ss17 "I" (.int (-1 : Int32))) (P63 : Exa Z h0 ra2 ss0) (P64 : Fld Z h0 ra2 ss0 ss15 ss16 .null) (P65 : n0 ≤ ra2) (P66 : ra1 ≠ ra2) (P67 : Fld Z h0 ra10 ss10 ss26 "I" (.int (0 : Int32))) (P68 : Fld Z h0 ra11 ss5 ss6 "I" (.int (1 : Int32))) (P69 : n0 ≤ ra11) (P70 : Ovr Z ca14 ss4) (P71 : n0 ≤ ra12) (P72 : ra11 ≠ ra12) (P73 : ra10 ≠ ra12) (P74 : ra10 ≠ ra11) (P75 : ra10 ≠ ra2) (P76 : ra11 ≠ ra2) (P77 : ra12 ≠ ra2) (P78 : Fld Z h0 ra2 ss0 ss14 "I" (.int (-1 : Int32))) (P79 : Fld Z h0 ra2 ss0 ss9 "I" (.int (-1 : Int32))) (P80 : Fld Z h0 ra2 ss0 ss11 "I" (.int (-1 : Int32))) (P81 : ra2 ≠ ra5) (P82 : ra2 ≠ ra6) (P83 : ra2 ≠ ra13) (P84 : ra2 ≠ ra7) (P85 : ra10 ≠ ra13) (P86 : ra10 ≠ ra7) (P87 : ra11 ≠ ra13) (P88 : ra11 ≠ ra7) (P89 : ra12 ≠ ra13) (P90 : ra12 ≠ ra7) : OwnM l yy14 (.code yy14 k42_ 6 none) ⟨6, 2, 16, 79⟩ #[(.ref ra1), (.ref ra2), (.ref ra3)] Z h0 (Q_rm42_49 Z ra1 ra2 ra3 ra4 ra5 ra6 ra7 ra9 ra10 ra11 ra12 ra13 ca8 ca14 h0 n0) := by
  refine own_open [ra1, ra5, ra6, ra13, ra7, ra12, ra11, ra2] [(ra1, some (sl24 Z)), (ra1, some (sl26 Z)), (ra5, some (sl23 Z)), (ra5, some (sl17 Z)), (ra6, none), (ra13, some (sl2 Z)), (ra13, some (sl6 Z)), (ra13, some (sl1 Z)), (ra7, some (sl9 Z)), (ra7, some (sl12 Z)), (ra2, some (sl1 Z)), (ra2, some (sl6 Z)), (ra2, some (sl2 Z)), (ra2, some (sl4 Z)), (ra12, none), (ra11, some (sl17 Z)), (ra11, some (sl23 Z)), (ra2, some (sl3 Z))] #[.val (.ref ra1), .val (.ref ra2), .val (.ref ra3), .unset, .unset, .unset] (plainFor_of_name pn_7) I0 ?_
  intro p e s m below meth c T b S0
  refine gAl b S0 d42_0 rfl rfl 1 rfl ?_
  refine gGs b S0 d42_1 (W 321 rfl) P0 4 rfl fun T1 S1 => ?_
  refine gAc b S1 d42_4 rfl rfl true (decide_eq_true rfl) 7 (by decide) (by decide) ?_
  refine gAl b S1 d42_7 rfl rfl 8 rfl ?_
  refine gAl b S1 d42_8 rfl rfl 9 rfl ?_
  refine cU (owner := ss8) (x := yy11) b S1 d42_9 (W 345 rfl) (W 346 rfl) (W 347 rfl) (W 349 rfl) (W 348 rfl) (W 9 rfl) (W 350 rfl) (rm43_50 W S1.i P2 P3 P4) P1 (by decide) (lenOf pd_20 rfl) rfl [(.ref ra1)] rfl 1 (own_le rfl) rfl 12 rfl fun T2 L2 v2 X2 q2 => ?_
  obtain ⟨rfl, N2q, e2⟩ := q2
  have S2 := S1.same X2 N2q e2
  refine gRv ?_
  refine gGs b S2 d42_12 (W 321 rfl) P0 15 rfl fun T3 S3 => ?_
  refine cU (owner := ss8) (x := yy9) b S3 d42_15 (W 351 rfl) (W 352 rfl) (W 353 rfl) (W 355 rfl) (W 354 rfl) (W 9 rfl) (W 356 rfl) (rm44_51 W S3.i P1 P2 P4 P5 P6 P7 P8 P9 P10 P11 P12 P13 P14 P15 P16 P17 P18 P19 P20 P21 P3) P1 (by decide) (lenOf pd_24 rfl) rfl [] rfl 0 (own_le rfl) rfl 18 rfl fun T4 L4 v4 X4 q4 => ?_
  obtain ⟨nw1_4, rfl, N4q, K4q, KF4q, z4_nw1, R4_0, R4_1, R4_2, R4_3, R4_4, R4_5, R4_6, R4_7, R4_8, R4_9, R4_10, R4_11, R4_12, R4_13⟩ := q4
  have S4 := S3.call X4 N4q K4q KF4q (allS (.inl (mI 2 rfl)) (allS (.inl (mI 1 rfl)) (allS (.inl (mI 0 rfl)) all0))) (fallS (.inl (mI 4 rfl)) (fallS (.inl (mI 3 rfl)) (fallS (.inl (mI 2 rfl)) (fallS (.inl (mI 1 rfl)) (fallS (.inl (mI 0 rfl)) fall0))))) (allS P14 (allS P9 (allS P21 all0)))
  refine gRv ?_
  refine gAs b S4 d42_18 rfl #[.val (.ref ra1), .val (.ref ra2), .val (.ref ra3), .val (.ref nw1_4), .unset, .unset] rfl 19 rfl ?_
  refine gAl b S4 d42_19 rfl rfl 20 rfl ?_
  refine gAl b S4 d42_20 rfl rfl 21 rfl ?_
  refine gGs b S4 d42_21 (W 323 rfl) P22 24 rfl fun T5 S5 => ?_
  have f6 := (P2.kf K4q KF4q (nofA P19 (nofA P20 (nofA P20 (nofB (sn15 W) (nofB (sn16 W) nof0))))))
  have f7 := (P5.keep K4q (ninS P16 (ninS P17 (ninS P23 nin0))))
  have f8 := (P6.keep K4q (ninS P16 (ninS P17 (ninS P23 nin0))))
  have f9 := (P10.kf K4q KF4q (nofA P15 (nofB (sn40 W) (nofB (sn0 W) (nofA (nS P20) (nofA (nS P20) nof0))))))
  have x10 := (nS (nL (tL P12.lt z4_nw1)))
  have x11 := (nS (nL (tL P7.lt z4_nw1)))
  have x12 := (nL (tL P1.lt z4_nw1))
  refine cU (owner := ss8) (x := yy9) b S5 d42_24 (W 351 rfl) (W 352 rfl) (W 353 rfl) (W 355 rfl) (W 354 rfl) (W 9 rfl) (W 356 rfl) (rm44_57 W S5.i (P1.keep K4q) f6 (P4.keep K4q) f7 f8 (P7.keep K4q) R4_2 P9 f9 R4_1 R4_0 P13 P14 P15 P16 P17 R4_6 R4_5 x10 x11 R4_11 P19 P20 (S3.ge z4_nw1) R4_4 x12 P21) (P1.keep K4q) (by decide) (lenOf pd_24 rfl) rfl [] rfl 0 (own_le rfl) rfl 27 rfl fun T13 L13 v13 X13 q13 => ?_
  obtain ⟨nw1_13, rfl, N13q, K13q, KF13q, z13_nw1, R13_0, R13_1, R13_2, R13_3, R13_4, R13_5, R13_6, R13_7, R13_8, R13_9, R13_10, R13_11, R13_12, R13_13⟩ := q13
  have S13 := S5.call X13 N13q K13q KF13q (allS (.inl (mI 2 rfl)) (allS (.inl (mI 1 rfl)) (allS (.inr (S3.sz z4_nw1)) (allS (.inl (mI 0 rfl)) all0)))) (fallS (.inl (mI 4 rfl)) (fallS (.inl (mI 3 rfl)) (fallS (.inl (mI 2 rfl)) (fallS (.inr (.inr (S3.sz z4_nw1))) (fallS (.inl (mI 0 rfl)) fall0))))) (allS P14 (allS P9 (allS (S3.ge z4_nw1) (allS P21 all0))))
  refine gRv ?_
  refine gAsW b S13 d42_27 rfl #[.val (.ref ra1), .val (.ref ra2), .val (.ref ra3), .val (.ref nw1_4), .val (.ref nw1_13), .unset] rfl 29 rfl ?_
  refine gGoto b S13 d42_29 51 (by decide) rfl ?_
  refine gAl b S13 d42_51 rfl rfl 52 rfl ?_
  have f14 := ((P24.kf K4q KF4q (nofA P19 (nofA P20 (nofA P20 (nofB (sn65 W) (nofB (sn64 W) nof0)))))).kf K13q KF13q (nofA P19 (nofA P20 (nofA P20 (nofA x12 (nofB (sn64 W) nof0))))))
  refine gGf (host := "") b S13 d42_52 (.inl (W 136 rfl)) Via.refl f14 55 rfl fun T15 S15 => ?_
  have x16 := (nL (tL P25.lt z4_nw1))
  have f17 := ((P26.keep K4q (ninS P29 (ninS P28 (ninS P27 nin0)))).keep K13q (ninS P29 (ninS P28 (ninS x16 (ninS P27 nin0)))))
  refine cV b S15 d42_55 (W 335 rfl) (W 336 rfl) (W 338 rfl) (W 337 rfl) (W 69 rfl) (W 339 rfl) (rm41_48 W S15.i f17) ((P25.keep K4q).keep K13q) (by decide) (lenOf pd_7 rfl) rfl [] rfl 0 (own_le rfl) rfl 58 rfl fun T18 L18 v18 X18 q18 => ?_
  obtain ⟨rfl, N18q, e18⟩ := q18
  have S18 := S15.same X18 N18q e18
  refine gRv ?_
  refine gIsW b S18 d42_58 #[.val (.ref ra1), .val (.ref ra2), .val (.ref ra3), .val (.ref nw1_4), .val (.ref nw1_13), .val (.int (1 : Int32))] rfl 60 rfl ?_
  refine gIlW b S18 d42_60 rfl 62 rfl ?_
  refine gIfN b S18 d42_62 rfl 65 rfl ?_
  refine gAl b S18 d42_65 rfl rfl 66 rfl ?_
  refine gGf (host := "") b S18 d42_66 (.inl (W 136 rfl)) Via.refl f14 69 rfl fun T19 S19 => ?_
  have f20 := ((P30.keep K4q (ninS P29 (ninS P28 (ninS P27 nin0)))).keep K13q (ninS P29 (ninS P28 (ninS x16 (ninS P27 nin0)))))
  have f21 := ((P31.kf K4q KF4q (nofA P19 (nofA P20 (nofA P20 (nofB (sn13 W) (nofB (sn14 W) nof0)))))).kf K13q KF13q (nofA P19 (nofA P20 (nofA P20 (nofA x12 (nofB (sn14 W) nof0))))))
  have f22 := ((P32.keep K4q (ninS P29 (ninS P28 (ninS P27 nin0)))).keep K13q (ninS P29 (ninS P28 (ninS x16 (ninS P27 nin0)))))
  have x23 := (nL (tL P33.lt z4_nw1))
  have f24 := ((P34.keep K4q (ninS P42 (ninS P41 (ninS P40 nin0)))).keep K13q (ninS P42 (ninS P41 (ninS x23 (ninS P40 nin0)))))
  have x25 := (nL (tL P35.lt z4_nw1))
  have f26 := ((P36.keep K4q (ninS P45 (ninS P44 (ninS P43 nin0)))).keep K13q (ninS P45 (ninS P44 (ninS x25 (ninS P43 nin0)))))
  have f27 := ((P37.keep K4q (ninS P45 (ninS P44 (ninS P43 nin0)))).keep K13q (ninS P45 (ninS P44 (ninS x25 (ninS P43 nin0)))))
  have x28 := (nL (tL P38.lt z4_nw1))
  have f29 := ((P38.keep K4q (ninS P48 (ninS P47 (ninS P46 nin0)))).keep K13q (ninS P48 (ninS P47 (ninS x28 (ninS P46 nin0)))))
  refine cV b S19 d42_69 (W 361 rfl) (W 362 rfl) (W 364 rfl) (W 363 rfl) (W 69 rfl) (W 365 rfl) (rm45_68 W S19.i f20 f21 f22 ((P33.keep K4q).keep K13q) f24 ((P35.keep K4q).keep K13q) f26 f27 f29 ((P39.keep K4q).keep K13q)) ((P25.keep K4q).keep K13q) (by decide) (lenOf pd_25 rfl) rfl [] rfl 0 (own_le rfl) rfl 72 rfl fun T30 L30 v30 X30 q30 => ?_
  obtain ⟨rfl, N30q, e30⟩ := q30
  have S30 := S19.same X30 N30q e30
  refine gRv ?_
  refine gAl b S30 d42_72 rfl rfl 73 rfl ?_
  have x31 := (nL (tL P39.lt z4_nw1))
  have f32 := ((P49.keep K4q (ninS P61 (ninS P60 (ninS P59 nin0)))).keep K13q (ninS P61 (ninS P60 (ninS x31 (ninS P59 nin0)))))
  have f33 := ((P50.keep K4q (ninS P61 (ninS P60 (ninS P59 nin0)))).keep K13q (ninS P61 (ninS P60 (ninS x31 (ninS P59 nin0)))))
  have f34 := (f6.kf K13q KF13q (nofA P19 (nofA P20 (nofA P20 (nofA x12 (nofB (sn16 W) nof0))))))
  have f35 := ((P51.keep K4q (ninS P61 (ninS P60 (ninS P59 nin0)))).keep K13q (ninS P61 (ninS P60 (ninS x31 (ninS P59 nin0)))))
  have x36 := (nL (tL P4.lt z4_nw1))
  have f37 := (f8.keep K13q (ninS P16 (ninS P17 (ninS x36 (ninS P23 nin0)))))
  have f38 := (f9.kf K13q KF13q (nofA P15 (nofB (sn40 W) (nofB (sn0 W) (nofA (nS x11) (nofA (nS P20) nof0))))))
  have f39 := ((P52.keep K4q (ninS P61 (ninS P60 (ninS P59 nin0)))).keep K13q (ninS P61 (ninS P60 (ninS x31 (ninS P59 nin0)))))
  have f40 := ((P56.keep K4q (ninS P29 (ninS P28 (ninS P27 nin0)))).keep K13q (ninS P29 (ninS P28 (ninS x16 (ninS P27 nin0)))))
  have f41 := (R4_12.kf K13q KF13q (nofA x10 (nofA x11 (nofA x11 (nofB (sn25 W) (nofA (nS x12) nof0))))))
  have f42 := ((P57.keep K4q (ninS P61 (ninS P60 (ninS P59 nin0)))).keep K13q (ninS P61 (ninS P60 (ninS x31 (ninS P59 nin0)))))
  have f43 := (R4_6.kf K13q KF13q (nofA x10 (nofA x11 (nofA x11 (nofB (sn44 W) (nofA (nS x12) nof0))))))
  have f44 := (R4_9.kf K13q KF13q (nofA x10 (nofA x11 (nofA x11 (nofB (sn31 W) (nofA (nS x12) nof0))))))
  have f45 := (R4_7.kf K13q KF13q (nofA x10 (nofA x11 (nofA x11 (nofB (sn49 W) (nofA (nS x12) nof0))))))
  refine cSU (owner := ss8) b S30 d42_73 (W 369 rfl) (W 370 rfl) (W 301 rfl) (W 9 rfl) (W 302 rfl) (rm35_69 W S30.i f32 f33 f34 f35 ((P4.keep K4q).keep K13q) f37 ((P7.keep K4q).keep K13q) R13_1 f38 R13_0 ((P25.keep K4q).keep K13q) f39 f22 P53 ((P39.keep K4q).keep K13q) P54 (nS P27) P55 (nS P28) (nS P29) f40 f41 f42 f43 P58 f44 (R4_5.keep K13q) (nS x31) (S3.ge z4_nw1) f45 (nS x16)) (by decide) (lenOf pd_12 rfl) rfl [] rfl 0 (own_le rfl) rfl 76 rfl fun T46 L46 v46 X46 q46 => ?_
  obtain ⟨rfl, N46q, K46q, KF46q, R46_0, R46_1, R46_2, R46_3, R46_4, R46_5, R46_6⟩ := q46
  have S46 := S30.call X46 N46q K46q KF46q (allS (.inl (mI 4 rfl)) (allS (.inr (S3.sz z4_nw1)) (allS (.inl (mI 3 rfl)) all0))) (fallS (.inl (mI 9 rfl)) (fallS (.inl (mI 8 rfl)) (fallS (.inr (.inr (S3.sz z4_nw1))) (fallS (.inr (.inr (S3.sz z4_nw1))) (fallS (.inl (mI 7 rfl)) (fallS (.inl (mI 6 rfl)) (fallS (.inl (mI 5 rfl)) fall0))))))) (allS P53 (allS (S3.ge z4_nw1) (allS P58 all0)))
  refine gRn ?_
  refine gInc b S46 d42_76 rfl #[.val (.ref ra1), .val (.ref ra2), .val (.ref ra3), .val (.ref nw1_4), .val (.ref nw1_13), .val (.int (0 : Int32))] rfl 79 rfl ?_
  refine gGoto b S46 d42_79 60 (by decide) rfl ?_
  refine gIlW b S46 d42_60 rfl 62 rfl ?_
  refine gIfY b S46 d42_62 rfl 82 (by decide) rfl ?_
  refine gAl b S46 d42_82 rfl rfl 83 rfl ?_
  refine gAlW b S46 d42_83 rfl rfl 85 rfl ?_
  have x47 := (nS (nL (tL (tL P39.lt K4q.1) z13_nw1)))
  have x48 := (nS (nL (tL R4_5.lt z13_nw1)))
  have x49 := (nS (nL (tL (tL P25.lt K4q.1) z13_nw1)))
  have f50 := (R13_12.keep K46q (ninS x49 (ninS x48 (ninS x47 nin0))))
  have x51 := (nL (tL P62.lt z4_nw1))
  have f52 := (((P62.keep K4q (ninS P82 (ninS P81 (ninS (nS P66) nin0)))).keep K13q (ninS P82 (ninS P81 (ninS x51 (ninS (nS P66) nin0))))).keep K46q (ninS P84 (ninS x51 (ninS P83 nin0))))
  have f53 := (((P63.keep K4q).keep K13q).keep K46q)
  have f54 := (((P64.keep K4q (ninS P82 (ninS P81 (ninS (nS P66) nin0)))).keep K13q (ninS P82 (ninS P81 (ninS x51 (ninS (nS P66) nin0))))).keep K46q (ninS P84 (ninS x51 (ninS P83 nin0))))
  have f55 := (f21.keep K46q (ninS (nS P27) (ninS x12 (ninS (nS P59) nin0))))
  have f56 := (((P33.keep K4q).keep K13q).keep K46q)
  have f57 := (((P67.keep K4q (ninS P42 (ninS P41 (ninS P40 nin0)))).keep K13q (ninS P42 (ninS P41 (ninS x23 (ninS P40 nin0))))).keep K46q (ninS P86 (ninS x23 (ninS P85 nin0))))
  have f58 := (f24.keep K46q (ninS P86 (ninS x23 (ninS P85 nin0))))
  have f59 := (((P35.keep K4q).keep K13q).keep K46q)
  have f60 := (((P68.keep K4q (ninS P45 (ninS P44 (ninS P43 nin0)))).keep K13q (ninS P45 (ninS P44 (ninS x25 (ninS P43 nin0))))).keep K46q (ninS P88 (ninS x25 (ninS P87 nin0))))
  have f61 := (f27.keep K46q (ninS P88 (ninS x25 (ninS P87 nin0))))
  have f62 := (f26.keep K46q (ninS P88 (ninS x25 (ninS P87 nin0))))
  have f63 := (f29.keep K46q (ninS P90 (ninS x28 (ninS P89 nin0))))
  have f64 := (R13_6.keep K46q (ninS x49 (ninS x48 (ninS x47 nin0))))
  have x65 := (nS (nL (tL (tL P62.lt K4q.1) z13_nw1)))
  have x66 := (nS (nL (tL (tL P35.lt K4q.1) z13_nw1)))
  have x67 := (nS (nL (tL (tL P38.lt K4q.1) z13_nw1)))
  have f68 := (((P78.keep K4q (ninS P82 (ninS P81 (ninS (nS P66) nin0)))).keep K13q (ninS P82 (ninS P81 (ninS x51 (ninS (nS P66) nin0))))).keep K46q (ninS P84 (ninS x51 (ninS P83 nin0))))
  have f69 := (((P79.keep K4q (ninS P82 (ninS P81 (ninS (nS P66) nin0)))).keep K13q (ninS P82 (ninS P81 (ninS x51 (ninS (nS P66) nin0))))).keep K46q (ninS P84 (ninS x51 (ninS P83 nin0))))
  have f70 := (R13_9.keep K46q (ninS x49 (ninS x48 (ninS x47 nin0))))
  have f71 := (((P80.keep K4q (ninS P82 (ninS P81 (ninS (nS P66) nin0)))).keep K13q (ninS P82 (ninS P81 (ninS x51 (ninS (nS P66) nin0))))).keep K46q (ninS P84 (ninS x51 (ninS P83 nin0))))
  have f72 := (R13_7.keep K46q (ninS x49 (ninS x48 (ninS x47 nin0))))
  refine cSU (owner := ss8) b S46 d42_85 (W 182 rfl) (W 183 rfl) (W 184 rfl) (W 9 rfl) (W 185 rfl) (rm20_77 W S46.i f50 f52 f53 f54 P65 f55 P66 f56 f57 f58 f59 f60 P69 f61 f62 f63 P70 P71 P72 P73 P74 P75 P76 P77 f64 (R13_5.keep K46q) x65 x66 x67 f68 f69 f70 f71 (S5.ge z13_nw1) f72) (by decide) (lenOf pd_12 rfl) rfl [] rfl 0 (own_le rfl) rfl 88 rfl fun T73 L73 v73 X73 q73 => ?_
  obtain ⟨rfl, N73q, K73q, KF73q, R73_0, R73_1, R73_2, R73_3, R73_4, R73_5, R73_6, R73_7, R73_8, R73_9⟩ := q73
  have S73 := S46.call X73 N73q K73q KF73q (allS (.inl (mI 7 rfl)) (allS (.inl (mI 6 rfl)) (allS (.inl (mI 5 rfl)) (allS (.inr (S5.sz z13_nw1)) all0)))) (fallS (.inl (mI 17 rfl)) (fallS (.inl (mI 16 rfl)) (fallS (.inl (mI 15 rfl)) (fallS (.inl (mI 14 rfl)) (fallS (.inl (mI 13 rfl)) (fallS (.inl (mI 12 rfl)) (fallS (.inl (mI 11 rfl)) (fallS (.inl (mI 10 rfl)) (fallS (.inr (.inr (S5.sz z13_nw1))) (fallS (.inr (.inr (S5.sz z13_nw1))) fall0)))))))))) (allS P65 (allS P69 (allS P71 (allS (S5.ge z13_nw1) all0))))
  refine gRn ?_
  have x74 := (nL (tL (tL P1.lt K4q.1) z13_nw1))
  have f75 := ((R13_4.keep K46q (ninS (nS P27) (ninS x12 (ninS (nS P59) nin0)))).keep K73q (ninS P66 (ninS (nS P43) (ninS (nS P46) (ninS x74 nin0)))))
  have f76 := (((R4_3.kf K13q KF13q (nofA P19 (nofA P20 (nofA P20 (nofA x12 (nofB (sn17 W) nof0)))))).keep K46q (ninS (nS P27) (ninS x12 (ninS (nS P59) nin0)))).keep K73q (ninS P66 (ninS (nS P43) (ninS (nS P46) (ninS x74 nin0)))))
  have x77 := (nL (tL (tL P7.lt K4q.1) z13_nw1))
  have f78 := ((R13_2.keep K46q (ninS (nS P28) (ninS (nS x11) (ninS (nS P60) nin0)))).keep K73q (ninS (nS P81) (ninS (nS P44) (ninS (nS P47) (ninS x77 nin0)))))
  have f79 := ((R13_1.keep K46q (ninS (nS P28) (ninS (nS x11) (ninS (nS P60) nin0)))).keep K73q (ninS (nS P81) (ninS (nS P44) (ninS (nS P47) (ninS x77 nin0)))))
  have x80 := (nL (tL (tL P12.lt K4q.1) z13_nw1))
  have f81 := ((R13_0.keep K46q (ninS (nS P29) (ninS (nS x10) (ninS (nS P61) nin0)))).keep K73q (ninS (nS P82) (ninS (nS P45) (ninS (nS P48) (ninS x80 nin0)))))
  have f82 := (R46_6.keep K73q (ninS (nS P83) (ninS (nS P87) (ninS (nS P89) (ninS (nS x47) nin0)))))
  have f83 := (R46_5.keep K73q (ninS (nS P83) (ninS (nS P87) (ninS (nS P89) (ninS (nS x47) nin0)))))
  have f84 := (R46_4.keep K73q (ninS (nS P83) (ninS (nS P87) (ninS (nS P89) (ninS (nS x47) nin0)))))
  have f85 := (R46_1.keep K73q (ninS (nS P84) (ninS (nS P88) (ninS (nS P90) (ninS (nS x49) nin0)))))
  have f86 := (R46_0.keep K73q (ninS (nS P84) (ninS (nS P88) (ninS (nS P90) (ninS (nS x49) nin0)))))
  have f87 := (((R4_5.keep K13q).keep K46q).keep K73q)
  have f88 := ((f43.kf K46q KF46q (nofA (nS x16) (nofA (nS x16) (nofB (sn113 W) (nofB (sn46 W) (nofA (nS x31) (nofA (nS x31) (nofA (nS x31) nof0)))))))).keep K73q (ninS (nS x51) (ninS (nS x25) (ninS (nS x28) (ninS (nS x48) nin0)))))
  have f89 := (((R4_8.kf K13q KF13q (nofA x10 (nofA x11 (nofA x11 (nofB (sn55 W) (nofA (nS x12) nof0)))))).kf K46q KF46q (nofA (nS x16) (nofA (nS x16) (nofB (sn118 W) (nofB (sn57 W) (nofA (nS x31) (nofA (nS x31) (nofA (nS x31) nof0)))))))).keep K73q (ninS (nS x51) (ninS (nS x25) (ninS (nS x28) (ninS (nS x48) nin0)))))
  have f90 := (((R4_10.kf K13q KF13q (nofA x10 (nofA x11 (nofA x11 (nofB (sn34 W) (nofA (nS x12) nof0)))))).kf K46q KF46q (nofA (nS x16) (nofA (nS x16) (nofB (sn120 W) (nofB (sn20 W) (nofA (nS x31) (nofA (nS x31) (nofA (nS x31) nof0)))))))).keep K73q (ninS (nS x51) (ninS (nS x25) (ninS (nS x28) (ninS (nS x48) nin0)))))
  have f91 := ((f41.kf K46q KF46q (nofA (nS x16) (nofA (nS x16) (nofB (sn112 W) (nofB (sn23 W) (nofA (nS x31) (nofA (nS x31) (nofA (nS x31) nof0)))))))).keep K73q (ninS (nS x51) (ninS (nS x25) (ninS (nS x28) (ninS (nS x48) nin0)))))
  have f92 := (((R4_13.kf K13q KF13q (nofA x10 (nofA x11 (nofA x11 (nofB (sn28 W) (nofA (nS x12) nof0)))))).kf K46q KF46q (nofA (nS x16) (nofA (nS x16) (nofB (sn121 W) (nofB (sn26 W) (nofA (nS x31) (nofA (nS x31) (nofA (nS x31) nof0)))))))).keep K73q (ninS (nS x51) (ninS (nS x25) (ninS (nS x28) (ninS (nS x48) nin0)))))
  have f93 := ((R13_3.kf K46q KF46q (nofA (nS x16) (nofA (nS x16) (nofB (sn122 W) (nofB (sn21 W) (nofA (nS x31) (nofA (nS x31) (nofA (nS x31) nof0)))))))).keep K73q (ninS (nS x51) (ninS (nS x25) (ninS (nS x28) (ninS (nS x48) nin0)))))
  have f94 := (R46_2.keep K73q (ninS (nS x51) (ninS (nS x25) (ninS (nS x28) (ninS (nS x48) nin0)))))
  have f95 := (R46_3.keep K73q (ninS (nS x51) (ninS (nS x25) (ninS (nS x28) (ninS (nS x48) nin0)))))
  have f96 := (f64.kf K73q KF73q (nofA x65 (nofA x66 (nofA x66 (nofA x67 (nofA x65 (nofA x65 (nofA x65 (nofA x65 (nofB (sn46 W) (nofB (sn113 W) nof0)))))))))))
  have f97 := ((R13_8.keep K46q (ninS x49 (ninS x48 (ninS x47 nin0)))).kf K73q KF73q (nofA x65 (nofA x66 (nofA x66 (nofA x67 (nofA x65 (nofA x65 (nofA x65 (nofA x65 (nofB (sn57 W) (nofB (sn118 W) nof0)))))))))))
  have f98 := ((R13_10.keep K46q (ninS x49 (ninS x48 (ninS x47 nin0)))).kf K73q KF73q (nofA x65 (nofA x66 (nofA x66 (nofA x67 (nofA x65 (nofA x65 (nofA x65 (nofA x65 (nofB (sn20 W) (nofB (sn120 W) nof0)))))))))))
  have f99 := ((R13_11.keep K46q (ninS x49 (ninS x48 (ninS x47 nin0)))).kf K73q KF73q (nofA x65 (nofA x66 (nofA x66 (nofA x67 (nofA x65 (nofA x65 (nofA x65 (nofA x65 (nofB (sn21 W) (nofB (sn122 W) nof0)))))))))))
  have f100 := (f50.kf K73q KF73q (nofA x65 (nofA x66 (nofA x66 (nofA x67 (nofA x65 (nofA x65 (nofA x65 (nofA x65 (nofB (sn23 W) (nofB (sn112 W) nof0)))))))))))
  have f101 := ((R13_13.keep K46q (ninS x49 (ninS x48 (ninS x47 nin0)))).kf K73q KF73q (nofA x65 (nofA x66 (nofA x66 (nofA x67 (nofA x65 (nofA x65 (nofA x65 (nofA x65 (nofB (sn26 W) (nofB (sn121 W) nof0)))))))))))
  exact gRetV b S73 d42_88 (own_le rfl) (own_le rfl) ⟨nw1_4, nw1_13, rfl, S73.f, S73.k, S73.kf, (S3.sz z4_nw1), (S5.sz z13_nw1), f75, f76, f78, f79, f81, f82, f83, f84, f85, f86, R73_7, R73_6, R73_5, R73_4, R73_3, R73_2, R73_1, R73_0, f87, f88, f89, f90, f91, f92, f93, f94, f95, ((R13_5.keep K46q).keep K73q), f96, f97, f98, f99, f100, f101, R73_8, R73_9, x48⟩
def Q_rm39_45 (Z : State) (ra1 ra2 ra3 ra4 ra5 ra6 ra8 ra9 ra10 ra11 ra13 ra14 ra15 ra16 ra17 ra19 : Addr) (ca7 ca12 ca18 : ClassId) (h0 : Heap) (n0 : Nat) (v : Option Value) (h : Heap) (L : List Loc) : Prop := ∃ nw1 : Addr, ∃ nw2 : Addr, v = some (.ref ra19) ∧ Fr n0 L ∧ Keep h0 h [ra2, ra15, ra16, ra6, ra17, ra11, ra10, ra1] ∧ KeepF h0 h [(ra2, some (sl3 Z)), (ra15, some (sl23 Z)), (ra15, some (sl17 Z)), (ra16, none), (ra2, some (sl4 Z)), (ra2, some (sl2 Z)), (ra2, some (sl6 Z)), (ra2, some (sl1 Z)), (ra6, some (sl12 Z)), (ra6, some (sl9 Z)), (ra17, some (sl1 Z)), (ra17, some (sl6 Z)), (ra17, some (sl2 Z)), (ra11, none), (ra10, some (sl17 Z)), (ra10, some (sl23 Z)), (ra1, some (sl26 Z)), (ra1, some (sl24 Z))] ∧ h0.size ≤ nw1 ∧ h0.size ≤ nw2 ∧ Fld Z h ra2 ss0 ss15 ss16 (.ref ra1) ∧ Fld Z h ra15 ss5 ss6 "I" (.int (2 : Int32)) ∧ Fld Z h ra15 ss2 ss3 "I" (.int (2 : Int32)) ∧ Arv Z h ra16 ca18 (.object ss4) (10 : Int32) [(.ref ra17), (.ref ra2), .null, .null, .null, .null, .null, .null, .null, .null] .null ∧ Fld Z h ra2 ss0 ss17 "I" (.int (1 : Int32)) ∧ Fld Z h ra2 ss0 ss14 "I" (.int (2 : Int32)) ∧ Fld Z h ra2 ss0 ss9 "I" (.int (-1 : Int32)) ∧ Fld Z h ra2 ss0 ss11 "I" (.int (-1 : Int32)) ∧ Fld Z h ra6 ss1 ss3 "I" (.int (0 : Int32)) ∧ Fld Z h ra6 ss1 ss13 "I" (.int (-1 : Int32)) ∧ Fld Z h ra17 ss0 ss11 "I" (.int (-1 : Int32)) ∧ Fld Z h ra17 ss0 ss9 "I" (.int (-1 : Int32)) ∧ Fld Z h ra17 ss0 ss14 "I" (.int (1 : Int32)) ∧ Arv Z h ra11 ca12 (.object ss4) (10 : Int32) [(.ref ra6), (.ref nw1), (.ref nw2), .null, .null, .null, .null, .null, .null, .null] .null ∧ Fld Z h ra10 ss2 ss3 "I" (.int (3 : Int32)) ∧ Fld Z h ra10 ss5 ss6 "I" (.int (3 : Int32)) ∧ Fld Z h ra1 ss8 ss24 "I" (.int (1 : Int32)) ∧ Fld Z h ra1 ss8 "last" "I" (.int (2 : Int32)) ∧ Exa Z h nw1 ss1 ∧ Fld Z h nw1 ss1 ss17 "I" (.int (1 : Int32)) ∧ Fld Z h nw1 ss1 ss21 "I" (.int (0 : Int32)) ∧ Fld Z h nw1 ss1 ss9 "I" (.int (-1 : Int32)) ∧ Fld Z h nw1 ss1 ss15 ss16 (.ref ra1) ∧ Fld Z h nw1 ss1 "kind" ss27 (.ref ra3) ∧ Fld Z h nw1 ss1 ss11 "I" (.int (2 : Int32)) ∧ Fld Z h nw1 ss1 ss3 "I" (.int (1 : Int32)) ∧ Fld Z h nw1 ss1 ss13 "I" (.int (0 : Int32)) ∧ Exa Z h nw2 ss1 ∧ Fld Z h nw2 ss1 ss17 "I" (.int (2 : Int32)) ∧ Fld Z h nw2 ss1 ss21 "I" (.int (0 : Int32)) ∧ Fld Z h nw2 ss1 ss9 "I" (.int (1 : Int32)) ∧ Fld Z h nw2 ss1 ss11 "I" (.int (-1 : Int32)) ∧ Fld Z h nw2 ss1 ss15 ss16 (.ref ra1) ∧ Fld Z h nw2 ss1 "kind" ss27 (.ref ra13) ∧ Fld Z h nw2 ss1 ss13 "I" (.int (1 : Int32)) ∧ Fld Z h nw2 ss1 ss3 "I" (.int (1 : Int32)) ∧ nw2 ≠ nw1
theorem rm39_45 (W : Wd a0 Z) (I0 : IO Z n0 h0) {ra1 ra2 ra3 ra4 ra5 ra6 ra8 ra9 ra10 ra11 ra13 ra14 ra15 ra16 ra17 ra19 : Addr} {ca7 ca12 ca18 : ClassId} (P0 : Exa Z h0 ra4 ss2) (P1 : Fld Z h0 ra4 ss5 ss6 "I" (.int (1 : Int32))) (P2 : Fld Z h0 ra4 ss2 ss3 "I" (.int (1 : Int32))) (P3 : Fld Z h0 ra4 ss2 ss12 ss7 (.ref ra5)) (P4 : Arv Z h0 ra5 ca7 (.object ss4) (10 : Int32) [(.ref ra6), .null, .null, .null, .null, .null, .null, .null, .null, .null] .null) (P5 : Exa Z h0 ra6 ss1) (P6 : Fld Z h0 ra6 ss1 "kind" ss27 (.ref ra8)) (P7 : ra8 ≠ ra3) (P8 : Sta Z Z.heap ss32 "A" ss33 (.ref ra3)) (P9 : Exa Z h0 ra1 ss28) (P10 : Fld Z h0 ra1 ss8 ss22 ss18 (.ref ra9)) (P11 : Fld Z h0 ra1 ss8 ss24 "I" (.int (-1 : Int32))) (P12 : Exa Z h0 ra9 ss10) (P13 : Fld Z h0 ra1 ss28 ss34 ss35 (.ref ra6)) (P14 : Fld Z h0 ra6 ss1 ss21 "I" (.int (1 : Int32))) (P15 : Fld Z h0 ra1 ss8 "last" "I" (.int (-1 : Int32))) (P16 : Fld Z h0 ra9 ss10 ss26 "I" (.int (0 : Int32))) (P17 : Fld Z h0 ra9 ss10 ss19 ss20 (.ref ra10)) (P18 : Exa Z h0 ra10 ss2) (P19 : Fld Z h0 ra10 ss5 ss6 "I" (.int (1 : Int32))) (P20 : n0 ≤ ra10) (P21 : Fld Z h0 ra10 ss2 ss12 ss7 (.ref ra11)) (P22 : Fld Z h0 ra10 ss2 ss3 "I" (.int (1 : Int32))) (P23 : Arv Z h0 ra11 ca12 (.object ss4) (10 : Int32) [(.ref ra6), .null, .null, .null, .null, .null, .null, .null, .null, .null] .null) (P24 : Ovr Z ca12 ss4) (P25 : n0 ≤ ra11) (P26 : ra10 ≠ ra11) (P27 : ra9 ≠ ra11) (P28 : ra9 ≠ ra10) (P29 : ra1 ≠ ra11) (P30 : ra1 ≠ ra10) (P31 : n0 ≤ ra1) (P32 : Sta Z Z.heap ss32 "B" ss33 (.ref ra13)) (P33 : ra9 ≠ ra1) (P34 : ra6 ≠ ra1) (P35 : ra6 ≠ ra10) (P36 : ra6 ≠ ra11) (P37 : Fld Z h0 ra6 ss1 ss15 ss16 (.ref ra1)) (P38 : Fld Z h0 ra1 ss8 ss31 ss18 (.ref ra14)) (P39 : Fld Z h0 ra6 ss1 ss13 "I" (.int (0 : Int32))) (P40 : Exa Z h0 ra14 ss10) (P41 : Fld Z h0 ra14 ss10 ss19 ss20 (.ref ra15)) (P42 : Exa Z h0 ra15 ss2) (P43 : Fld Z h0 ra15 ss2 ss3 "I" (.int (1 : Int32))) (P44 : Fld Z h0 ra15 ss2 ss12 ss7 (.ref ra16)) (P45 : Arv Z h0 ra16 ca18 (.object ss4) (10 : Int32) [(.ref ra17), .null, .null, .null, .null, .null, .null, .null, .null, .null] .null) (P46 : Exa Z h0 ra17 ss0) (P47 : ra14 ≠ ra1) (P48 : ra14 ≠ ra10) (P49 : ra14 ≠ ra11) (P50 : ra15 ≠ ra1) (P51 : ra15 ≠ ra10) (P52 : ra15 ≠ ra11) (P53 : ra16 ≠ ra1) (P54 : ra16 ≠ ra10) (P55 : ra16 ≠ ra11) (P56 : Fld Z h0 ra17 ss0 ss15 ss16 (.ref ra1)) (P57 : Fld Z h0 ra17 ss0 ss9 "I" (.int (-1 : Int32))) (P58 : Fld Z h0 ra17 ss0 ss14 "I" (.int (0 : Int32))) (P59 : Fld Z h0 ra17 ss0 ss11 "I" (.int (-1 : Int32))) (P60 : n0 ≤ ra6) (P61 : ra17 ≠ ra6) (P62 : ra9 ≠ ra6) (P63 : Fld Z h0 ra6 ss1 ss3 "I" (.int (1 : Int32))) (P64 : Fld Z h0 ra17 ss0 ss17 "I" (.int (0 : Int32))) (P65 : n0 ≤ ra17) (P66 : ra17 ≠ ra1) (P67 : ra17 ≠ ra10) (P68 : ra17 ≠ ra11) (P69 : Fld Z h0 ra2 ss0 ss17 "I" (.int (-1 : Int32))) (P70 : Exa Z h0 ra2 ss0) (P71 : Fld Z h0 ra2 ss0 ss15 ss16 .null) (P72 : n0 ≤ ra2) (P73 : ra1 ≠ ra2) (P74 : Fld Z h0 ra14 ss10 ss26 "I" (.int (0 : Int32))) (P75 : Fld Z h0 ra15 ss5 ss6 "I" (.int (1 : Int32))) (P76 : n0 ≤ ra15) (P77 : Ovr Z ca18 ss4) (P78 : n0 ≤ ra16) (P79 : ra15 ≠ ra16) (P80 : ra14 ≠ ra16) (P81 : ra14 ≠ ra15) (P82 : ra14 ≠ ra2) (P83 : ra15 ≠ ra2) (P84 : ra16 ≠ ra2) (P85 : Fld Z h0 ra2 ss0 ss14 "I" (.int (-1 : Int32))) (P86 : Fld Z h0 ra2 ss0 ss9 "I" (.int (-1 : Int32))) (P87 : Fld Z h0 ra2 ss0 ss11 "I" (.int (-1 : Int32))) (P88 : ra2 ≠ ra10) (P89 : ra2 ≠ ra11) (P90 : ra2 ≠ ra17) (P91 : ra2 ≠ ra6) (P92 : ra14 ≠ ra17) (P93 : ra14 ≠ ra6) (P94 : ra15 ≠ ra17) (P95 : ra15 ≠ ra6) (P96 : ra16 ≠ ra17) (P97 : ra16 ≠ ra6) (P98 : Sta Z Z.heap ss29 "APPLIED" ss36 (.ref ra19)) : OwnM l yy10 (.code yy10 k39_ 11 (some (.object ss29))) ⟨7, 3, 20, 96⟩ #[(.ref ra1), (.ref ra2), (.ref ra3), (.ref ra4)] Z h0 (Q_rm39_45 Z ra1 ra2 ra3 ra4 ra5 ra6 ra8 ra9 ra10 ra11 ra13 ra14 ra15 ra16 ra17 ra19 ca7 ca12 ca18 h0 n0) := by
  refine own_open [ra2, ra15, ra16, ra6, ra17, ra11, ra10, ra1] [(ra2, some (sl3 Z)), (ra15, some (sl23 Z)), (ra15, some (sl17 Z)), (ra16, none), (ra2, some (sl4 Z)), (ra2, some (sl2 Z)), (ra2, some (sl6 Z)), (ra2, some (sl1 Z)), (ra6, some (sl12 Z)), (ra6, some (sl9 Z)), (ra17, some (sl1 Z)), (ra17, some (sl6 Z)), (ra17, some (sl2 Z)), (ra11, none), (ra10, some (sl17 Z)), (ra10, some (sl23 Z)), (ra1, some (sl26 Z)), (ra1, some (sl24 Z))] #[.val (.ref ra1), .val (.ref ra2), .val (.ref ra3), .val (.ref ra4), .unset, .unset, .unset, .unset, .unset, .unset, .unset] (plainFor_of_name pn_7) I0 ?_
  intro p e s m below meth c T b S0
  refine gIc b S0 d39_0 0 rfl 1 rfl ?_
  refine gIsW b S0 d39_1 #[.val (.ref ra1), .val (.ref ra2), .val (.ref ra3), .val (.ref ra4), .val (.int (0 : Int32)), .unset, .unset, .unset, .unset, .unset, .unset] rfl 3 rfl ?_
  refine gAl b S0 d39_3 rfl rfl 4 rfl ?_
  refine cI (xi := yy61) b S0 d39_4 (W 312 rfl) (W 209 rfl) (fun hZ => mvT hZ (W 210 rfl)) (W 211 rfl) (W 212 rfl) (W 213 rfl) (W 214 rfl) (W 98 rfl) (W 23 rfl) (W 215 rfl) (rm23_27 W S0.i P1) P0 (by decide) (lenOf pd_16 rfl) rfl [] rfl 0 (own_le rfl) rfl 9 rfl fun T1 L1 v1 X1 q1 => ?_
  obtain ⟨nw1_1, rfl, N1q, K1q, KF1q, z1_nw1, R1_0, R1_1, R1_2, R1_3, R1_4⟩ := q1
  have S1 := S0.call X1 N1q K1q KF1q all0 fall0 all0
  refine gRv ?_
  refine gAsW b S1 d39_9 rfl #[.val (.ref ra1), .val (.ref ra2), .val (.ref ra3), .val (.ref ra4), .val (.int (0 : Int32)), .val (.ref nw1_1), .unset, .unset, .unset, .unset, .unset] rfl 11 rfl ?_
  refine gAlW b S1 d39_11 rfl rfl 13 rfl ?_
  refine cI (xi := yy56) b S1 d39_13 (W 313 rfl) (W 232 rfl) (fun hZ => mvT hZ (W 233 rfl)) (W 234 rfl) (W 235 rfl) (W 236 rfl) (W 237 rfl) (W 238 rfl) (W 218 rfl) (W 239 rfl) (rm25_29 W S1.i R1_1 R1_2 (P2.keep K1q nin0)) R1_0 (by decide) (lenOf pd_11 rfl) rfl [] rfl 0 (own_le rfl) rfl 18 rfl fun T2 L2 v2 X2 q2 => ?_
  obtain ⟨rfl, N2q, e2⟩ := q2
  have S2 := S1.same X2 N2q e2
  refine gRv ?_
  refine gIfN b S2 d39_18 rfl 21 rfl ?_
  refine gAlW b S2 d39_21 rfl rfl 23 rfl ?_
  have x3 := (nL (tL P4.lt z1_nw1))
  refine cI (xi := yy57) b S2 d39_23 (W 314 rfl) (W 244 rfl) (fun hZ => mvT hZ (W 245 rfl)) (W 246 rfl) (W 247 rfl) (W 248 rfl) (W 249 rfl) (W 238 rfl) (W 218 rfl) (W 250 rfl) (rm26_30 W S2.i R1_0 R1_2 (P1.keep K1q nin0) R1_4 R1_1 (P2.keep K1q nin0) (P3.keep K1q nin0) (P4.keep K1q nin0) (S0.ge z1_nw1) R1_3 x3) R1_0 (by decide) (lenOf pd_17 rfl) rfl [] rfl 0 (own_le rfl) rfl 28 rfl fun T4 L4 v4 X4 q4 => ?_
  obtain ⟨rfl, N4q, K4q, KF4q, R4_0, R4_1⟩ := q4
  have S4 := S2.call X4 N4q K4q KF4q (allS (.inr (S0.sz z1_nw1)) all0) (fallS (.inr (.inr (S0.sz z1_nw1))) (fallS (.inr (.inr (S0.sz z1_nw1))) fall0)) (allS (S0.ge z1_nw1) all0)
  refine gRv ?_
  refine gCc b S4 d39_28 (W 315 rfl) (Ins.self ((P5.keep K1q).keep K4q)) 31 rfl fun T5 S5 => ?_
  refine gAsW b S5 d39_31 rfl #[.val (.ref ra1), .val (.ref ra2), .val (.ref ra3), .val (.ref ra4), .val (.int (0 : Int32)), .val (.ref nw1_1), .val (.ref ra6), .unset, .unset, .unset, .unset] rfl 33 rfl ?_
  refine gIlW b S5 d39_33 rfl 35 rfl ?_
  refine gAlW b S5 d39_35 rfl rfl 37 rfl ?_
  have x6 := (nL (tL P5.lt z1_nw1))
  have f7 := ((P6.keep K1q nin0).keep K4q (ninS x6 nin0))
  refine cV b S5 d39_37 (W 316 rfl) (W 317 rfl) (W 319 rfl) (W 318 rfl) (W 69 rfl) (W 320 rfl) (rm38_44 W S5.i f7) ((P5.keep K1q).keep K4q) (by decide) (lenOf pd_17 rfl) rfl [(.int (0 : Int32))] rfl 1 (own_le rfl) rfl 40 rfl fun T8 L8 v8 X8 q8 => ?_
  obtain ⟨rfl, N8q, e8⟩ := q8
  have S8 := S5.same X8 N8q e8
  refine gRv ?_
  refine gAl b S8 d39_40 rfl rfl 41 rfl ?_
  refine gAc b S8 d39_41 rfl rfl false (decide_eq_false fun q => P7 (Value.ref.inj q)) 48 (by decide) (by decide) ?_
  refine gIc b S8 d39_48 0 rfl 49 rfl ?_
  refine gAdd b S8 d39_49 0 rfl 50 rfl ?_
  refine gIsW b S8 d39_50 #[.val (.ref ra1), .val (.ref ra2), .val (.ref ra3), .val (.ref ra4), .val (.int (0 : Int32)), .val (.ref nw1_1), .val (.ref ra6), .unset, .unset, .unset, .unset] rfl 52 rfl ?_
  refine gGoto b S8 d39_52 11 (by decide) rfl ?_
  refine gAlW b S8 d39_11 rfl rfl 13 rfl ?_
  have f9 := (R1_2.kf K4q KF4q (nofB (sn119 W) (nofB (sn103 W) nof0)))
  have x10 := (nL (tL P0.lt z1_nw1))
  have f11 := ((P2.keep K1q nin0).keep K4q (ninS x10 nin0))
  refine cI (xi := yy56) b S8 d39_13 (W 313 rfl) (W 232 rfl) (fun hZ => mvT hZ (W 233 rfl)) (W 234 rfl) (W 235 rfl) (W 236 rfl) (W 237 rfl) (W 238 rfl) (W 218 rfl) (W 239 rfl) (rm25_42 W S8.i R4_0 f9 f11) (R1_0.keep K4q) (by decide) (lenOf pd_11 rfl) rfl [] rfl 0 (own_le rfl) rfl 18 rfl fun T12 L12 v12 X12 q12 => ?_
  obtain ⟨rfl, N12q, e12⟩ := q12
  have S12 := S8.same X12 N12q e12
  refine gRv ?_
  refine gIfY b S12 d39_18 rfl 55 (by decide) rfl ?_
  refine gAl b S12 d39_55 rfl rfl 56 rfl ?_
  refine gGs b S12 d39_56 (W 321 rfl) P8 59 rfl fun T13 S13 => ?_
  refine gAc b S13 d39_59 rfl rfl true (decide_eq_true rfl) 62 (by decide) (by decide) ?_
  refine gAl b S13 d39_62 rfl rfl 63 rfl ?_
  have x14 := (nL (tL P9.lt z1_nw1))
  have f15 := ((P10.keep K1q nin0).keep K4q (ninS x14 nin0))
  have f16 := ((P11.keep K1q nin0).keep K4q (ninS x14 nin0))
  refine cU (owner := ss8) (x := yy6) b S13 d39_63 (W 329 rfl) (W 330 rfl) (W 331 rfl) (W 333 rfl) (W 332 rfl) (W 9 rfl) (W 334 rfl) (rm40_46 W S13.i f15 f16 ((P12.keep K1q).keep K4q)) ((P9.keep K1q).keep K4q) (by decide) (lenOf pd_20 rfl) rfl [] rfl 0 (own_le rfl) rfl 66 rfl fun T17 L17 v17 X17 q17 => ?_
  obtain ⟨rfl, N17q, e17⟩ := q17
  have S17 := S13.same X17 N17q e17
  refine gRv ?_
  refine gGoto b S17 d39_66 73 (by decide) rfl ?_
  refine gAsW b S17 d39_73 rfl #[.val (.ref ra1), .val (.ref ra2), .val (.ref ra3), .val (.ref ra4), .val (.int (0 : Int32)), .val .null, .val (.ref ra6), .unset, .unset, .unset, .unset] rfl 75 rfl ?_
  refine gNull b S17 d39_75 76 rfl ?_
  refine gAsW b S17 d39_76 rfl #[.val (.ref ra1), .val (.ref ra2), .val (.ref ra3), .val (.ref ra4), .val (.int (0 : Int32)), .val .null, .val .null, .unset, .unset, .unset, .unset] rfl 78 rfl ?_
  refine gIc b S17 d39_78 0 rfl 79 rfl ?_
  refine gIsW b S17 d39_79 #[.val (.ref ra1), .val (.ref ra2), .val (.ref ra3), .val (.ref ra4), .val (.int (0 : Int32)), .val .null, .val .null, .val (.int (0 : Int32)), .unset, .unset, .unset] rfl 81 rfl ?_
  refine gAlW b S17 d39_81 rfl rfl 83 rfl ?_
  refine gNuY b S17 d39_83 111 (by decide) rfl ?_
  refine gAl b S17 d39_111 rfl rfl 112 rfl ?_
  have f18 := ((P13.keep K1q nin0).keep K4q (ninS x14 nin0))
  refine gGf (host := "") b S17 d39_112 (.inl (W 136 rfl)) Via.refl f18 115 rfl fun T19 S19 => ?_
  have f20 := ((P14.keep K1q nin0).keep K4q (ninS x6 nin0))
  refine cV b S19 d39_115 (W 335 rfl) (W 336 rfl) (W 338 rfl) (W 337 rfl) (W 69 rfl) (W 339 rfl) (rm41_48 W S19.i f20) ((P5.keep K1q).keep K4q) (by decide) (lenOf pd_7 rfl) rfl [] rfl 0 (own_le rfl) rfl 118 rfl fun T21 L21 v21 X21 q21 => ?_
  obtain ⟨rfl, N21q, e21⟩ := q21
  have S21 := S19.same X21 N21q e21
  refine gRv ?_
  refine gIfN b S21 d39_118 rfl 121 rfl ?_
  refine gAlW b S21 d39_121 rfl rfl 123 rfl ?_
  refine gNnN b S21 d39_123 126 rfl ?_
  refine gAl b S21 d39_126 rfl rfl 127 rfl ?_
  refine gAl b S21 d39_127 rfl rfl 128 rfl ?_
  refine gAl b S21 d39_128 rfl rfl 129 rfl ?_
  have f22 := ((P15.keep K1q nin0).keep K4q (ninS x14 nin0))
  have x23 := (nL (tL P12.lt z1_nw1))
  have f24 := ((P16.keep K1q nin0).keep K4q (ninS x23 nin0))
  have f25 := ((P17.keep K1q nin0).keep K4q (ninS x23 nin0))
  have x26 := (nL (tL P18.lt z1_nw1))
  have f27 := ((P19.keep K1q nin0).keep K4q (ninS x26 nin0))
  have f28 := ((P21.keep K1q nin0).keep K4q (ninS x26 nin0))
  have f29 := ((P22.keep K1q nin0).keep K4q (ninS x26 nin0))
  have x30 := (nL (tL P23.lt z1_nw1))
  have f31 := ((P23.keep K1q nin0).keep K4q (ninS x30 nin0))
  have f32 := ((P37.keep K1q nin0).keep K4q (ninS x6 nin0))
  have f33 := ((P38.keep K1q nin0).keep K4q (ninS x14 nin0))
  have f34 := ((P39.keep K1q nin0).keep K4q (ninS x6 nin0))
  have x35 := (nL (tL P40.lt z1_nw1))
  have f36 := ((P41.keep K1q nin0).keep K4q (ninS x35 nin0))
  have x37 := (nL (tL P42.lt z1_nw1))
  have f38 := ((P43.keep K1q nin0).keep K4q (ninS x37 nin0))
  have f39 := ((P44.keep K1q nin0).keep K4q (ninS x37 nin0))
  have x40 := (nL (tL P45.lt z1_nw1))
  have f41 := ((P45.keep K1q nin0).keep K4q (ninS x40 nin0))
  have x42 := (nL (tL P46.lt z1_nw1))
  have f43 := ((P56.keep K1q nin0).keep K4q (ninS x42 nin0))
  have f44 := ((P57.keep K1q nin0).keep K4q (ninS x42 nin0))
  have f45 := ((P58.keep K1q nin0).keep K4q (ninS x42 nin0))
  have f46 := ((P59.keep K1q nin0).keep K4q (ninS x42 nin0))
  have f47 := ((P63.keep K1q nin0).keep K4q (ninS x6 nin0))
  have f48 := ((P64.keep K1q nin0).keep K4q (ninS x42 nin0))
  have x49 := (nL (tL P69.lt z1_nw1))
  have f50 := ((P69.keep K1q nin0).keep K4q (ninS x49 nin0))
  have f51 := ((P71.keep K1q nin0).keep K4q (ninS x49 nin0))
  have f52 := ((P74.keep K1q nin0).keep K4q (ninS x35 nin0))
  have f53 := ((P75.keep K1q nin0).keep K4q (ninS x37 nin0))
  have f54 := ((P85.keep K1q nin0).keep K4q (ninS x49 nin0))
  have f55 := ((P86.keep K1q nin0).keep K4q (ninS x49 nin0))
  have f56 := ((P87.keep K1q nin0).keep K4q (ninS x49 nin0))
  refine cP b S21 d39_129 (W 341 rfl) (W 342 rfl) (fun hZ => (own_selfP (z := yy3) (mvT hZ (W 172 rfl)) rfl (Cond.privateMethod_at (mvP hZ (W 343 rfl) (args := #[]))) (mvT hZ (W 342 rfl)) (by decide))) (W 343 rfl) (W 2 rfl) (W 344 rfl) (rm42_49 W S21.i P8 ((P9.keep K1q).keep K4q) f15 f22 ((P12.keep K1q).keep K4q) f24 f25 ((P18.keep K1q).keep K4q) f27 P20 f28 f29 f31 P24 P25 P26 P27 P28 f16 P29 P30 P31 P32 P33 f18 ((P5.keep K1q).keep K4q) f20 P34 P35 P36 f32 f33 f34 ((P40.keep K1q).keep K4q) f36 ((P42.keep K1q).keep K4q) f38 f39 f41 ((P46.keep K1q).keep K4q) P47 P48 P49 P50 P51 P52 P53 P54 P55 f43 f44 f45 f46 P60 P61 P62 f47 f48 P65 P66 P67 P68 f50 ((P70.keep K1q).keep K4q) f51 P72 P73 f52 f53 P76 P77 P78 P79 P80 P81 P82 P83 P84 f54 f55 f56 P88 P89 P90 P91 P92 P93 P94 P95 P96 P97) ((P9.keep K1q).keep K4q) (by decide) (lenOf pd_26 rfl) rfl [] rfl 0 (own_le rfl) rfl 132 rfl fun T57 L57 v57 X57 q57 => ?_
  obtain ⟨nw1_57, nw2_57, rfl, N57q, K57q, KF57q, z57_nw1, z57_nw2, R57_0, R57_1, R57_2, R57_3, R57_4, R57_5, R57_6, R57_7, R57_8, R57_9, R57_10, R57_11, R57_12, R57_13, R57_14, R57_15, R57_16, R57_17, R57_18, R57_19, R57_20, R57_21, R57_22, R57_23, R57_24, R57_25, R57_26, R57_27, R57_28, R57_29, R57_30, R57_31, R57_32, R57_33, R57_34, R57_35, R57_36⟩ := q57
  have S57 := S21.call X57 N57q K57q KF57q (allS (.inl (mI 7 rfl)) (allS (.inl (mI 6 rfl)) (allS (.inl (mI 5 rfl)) (allS (.inl (mI 4 rfl)) (allS (.inl (mI 3 rfl)) (allS (.inl (mI 2 rfl)) (allS (.inl (mI 1 rfl)) (allS (.inl (mI 0 rfl)) all0)))))))) (fallS (.inl (mI 17 rfl)) (fallS (.inl (mI 16 rfl)) (fallS (.inl (mI 15 rfl)) (fallS (.inl (mI 14 rfl)) (fallS (.inl (mI 13 rfl)) (fallS (.inl (mI 12 rfl)) (fallS (.inl (mI 11 rfl)) (fallS (.inl (mI 10 rfl)) (fallS (.inl (mI 9 rfl)) (fallS (.inl (mI 8 rfl)) (fallS (.inl (mI 7 rfl)) (fallS (.inl (mI 6 rfl)) (fallS (.inl (mI 5 rfl)) (fallS (.inl (mI 4 rfl)) (fallS (.inl (mI 3 rfl)) (fallS (.inl (mI 2 rfl)) (fallS (.inl (mI 1 rfl)) (fallS (.inl (mI 0 rfl)) fall0)))))))))))))))))) (allS P31 (allS P20 (allS P25 (allS P65 (allS P60 (allS P78 (allS P76 (allS P72 all0))))))))
  refine gRn ?_
  refine cS b S57 d39_132 (W 196 rfl) (W 197 rfl) (W 198 rfl) (W 199 rfl) (rm21_23 W S57.i P98) (by decide) (lenOf pd_13 rfl) rfl [] rfl 0 (own_le rfl) rfl 135 rfl fun T58 L58 v58 X58 q58 => ?_
  obtain ⟨rfl, N58q, e58⟩ := q58
  have S58 := S57.same X58 N58q e58
  refine gRv ?_
  exact gRetA b S58 d39_135 rfl rfl rfl (own_le rfl) (own_le rfl) ⟨nw1_57, nw2_57, rfl, S58.f, S58.k, S58.kf, (S21.sz z57_nw1), (S21.sz z57_nw2), R57_17, R57_16, R57_15, R57_14, R57_13, R57_12, R57_11, R57_10, R57_9, R57_8, R57_7, R57_6, R57_5, R57_4, R57_3, R57_2, R57_1, R57_0, R57_18, R57_19, R57_20, R57_21, R57_22, R57_23, R57_24, R57_25, R57_26, R57_27, R57_28, R57_29, R57_30, R57_31, R57_32, R57_33, R57_34, R57_35, R57_36⟩
def Q_rm37_43 (Z : State) (ra1 ra2 ra3 ra4 ra5 ra7 ra8 ra9 ra10 ra11 ra12 ra14 ra15 ra16 ra17 ra19 : Addr) (ca6 ca13 ca18 : ClassId) (h0 : Heap) (n0 : Nat) (v : Option Value) (h : Heap) (L : List Loc) : Prop := ∃ nw1 : Addr, ∃ nw2 : Addr, v = some (.ref ra19) ∧ Fr n0 L ∧ Keep h0 h [ra1, ra11, ra12, ra17, ra5, ra16, ra15, ra2] ∧ KeepF h0 h [(ra1, some (sl24 Z)), (ra1, some (sl26 Z)), (ra11, some (sl23 Z)), (ra11, some (sl17 Z)), (ra12, none), (ra17, some (sl2 Z)), (ra17, some (sl6 Z)), (ra17, some (sl1 Z)), (ra5, some (sl9 Z)), (ra5, some (sl12 Z)), (ra2, some (sl1 Z)), (ra2, some (sl6 Z)), (ra2, some (sl2 Z)), (ra2, some (sl4 Z)), (ra16, none), (ra15, some (sl17 Z)), (ra15, some (sl23 Z)), (ra2, some (sl3 Z))] ∧ h0.size ≤ nw1 ∧ h0.size ≤ nw2 ∧ Fld Z h ra1 ss8 "last" "I" (.int (2 : Int32)) ∧ Fld Z h ra1 ss8 ss24 "I" (.int (1 : Int32)) ∧ Fld Z h ra11 ss5 ss6 "I" (.int (3 : Int32)) ∧ Fld Z h ra11 ss2 ss3 "I" (.int (3 : Int32)) ∧ Arv Z h ra12 ca13 (.object ss4) (10 : Int32) [(.ref ra5), (.ref nw1), (.ref nw2), .null, .null, .null, .null, .null, .null, .null] .null ∧ Fld Z h ra17 ss0 ss14 "I" (.int (1 : Int32)) ∧ Fld Z h ra17 ss0 ss9 "I" (.int (-1 : Int32)) ∧ Fld Z h ra17 ss0 ss11 "I" (.int (-1 : Int32)) ∧ Fld Z h ra5 ss1 ss13 "I" (.int (-1 : Int32)) ∧ Fld Z h ra5 ss1 ss3 "I" (.int (0 : Int32)) ∧ Fld Z h ra2 ss0 ss11 "I" (.int (-1 : Int32)) ∧ Fld Z h ra2 ss0 ss9 "I" (.int (-1 : Int32)) ∧ Fld Z h ra2 ss0 ss14 "I" (.int (2 : Int32)) ∧ Fld Z h ra2 ss0 ss17 "I" (.int (1 : Int32)) ∧ Arv Z h ra16 ca18 (.object ss4) (10 : Int32) [(.ref ra17), (.ref ra2), .null, .null, .null, .null, .null, .null, .null, .null] .null ∧ Fld Z h ra15 ss2 ss3 "I" (.int (2 : Int32)) ∧ Fld Z h ra15 ss5 ss6 "I" (.int (2 : Int32)) ∧ Fld Z h ra2 ss0 ss15 ss16 (.ref ra1) ∧ Exa Z h nw1 ss1 ∧ Fld Z h nw1 ss1 ss17 "I" (.int (1 : Int32)) ∧ Fld Z h nw1 ss1 ss21 "I" (.int (0 : Int32)) ∧ Fld Z h nw1 ss1 ss9 "I" (.int (-1 : Int32)) ∧ Fld Z h nw1 ss1 ss15 ss16 (.ref ra1) ∧ Fld Z h nw1 ss1 "kind" ss27 (.ref ra8) ∧ Fld Z h nw1 ss1 ss11 "I" (.int (2 : Int32)) ∧ Fld Z h nw1 ss1 ss3 "I" (.int (1 : Int32)) ∧ Fld Z h nw1 ss1 ss13 "I" (.int (0 : Int32)) ∧ Exa Z h nw2 ss1 ∧ Fld Z h nw2 ss1 ss17 "I" (.int (2 : Int32)) ∧ Fld Z h nw2 ss1 ss21 "I" (.int (0 : Int32)) ∧ Fld Z h nw2 ss1 ss9 "I" (.int (1 : Int32)) ∧ Fld Z h nw2 ss1 ss11 "I" (.int (-1 : Int32)) ∧ Fld Z h nw2 ss1 ss15 ss16 (.ref ra1) ∧ Fld Z h nw2 ss1 "kind" ss27 (.ref ra9) ∧ Fld Z h nw2 ss1 ss13 "I" (.int (1 : Int32)) ∧ Fld Z h nw2 ss1 ss3 "I" (.int (1 : Int32)) ∧ nw2 ≠ nw1
theorem rm37_43 (W : Wd a0 Z) (I0 : IO Z n0 h0) {ra1 ra2 ra3 ra4 ra5 ra7 ra8 ra9 ra10 ra11 ra12 ra14 ra15 ra16 ra17 ra19 : Addr} {ca6 ca13 ca18 : ClassId} (P0 : Exa Z h0 ra3 ss2) (P1 : Fld Z h0 ra3 ss5 ss6 "I" (.int (1 : Int32))) (P2 : Fld Z h0 ra3 ss2 ss3 "I" (.int (1 : Int32))) (P3 : Fld Z h0 ra3 ss2 ss12 ss7 (.ref ra4)) (P4 : Arv Z h0 ra4 ca6 (.object ss4) (10 : Int32) [(.ref ra5), .null, .null, .null, .null, .null, .null, .null, .null, .null] .null) (P5 : Exa Z h0 ra5 ss1) (P6 : Fld Z h0 ra5 ss1 "kind" ss27 (.ref ra7)) (P7 : Sta Z Z.heap ss32 "A" ss33 (.ref ra8)) (P8 : ra7 ≠ ra8) (P9 : Sta Z Z.heap ss32 "B" ss33 (.ref ra9)) (P10 : ra7 ≠ ra9) (P11 : Exa Z h0 ra1 ss28) (P12 : Fld Z h0 ra1 ss8 ss22 ss18 (.ref ra10)) (P13 : Fld Z h0 ra1 ss8 ss24 "I" (.int (-1 : Int32))) (P14 : Exa Z h0 ra10 ss10) (P15 : Fld Z h0 ra1 ss28 ss34 ss35 (.ref ra5)) (P16 : Fld Z h0 ra5 ss1 ss21 "I" (.int (1 : Int32))) (P17 : Fld Z h0 ra1 ss8 "last" "I" (.int (-1 : Int32))) (P18 : Fld Z h0 ra10 ss10 ss26 "I" (.int (0 : Int32))) (P19 : Fld Z h0 ra10 ss10 ss19 ss20 (.ref ra11)) (P20 : Exa Z h0 ra11 ss2) (P21 : Fld Z h0 ra11 ss5 ss6 "I" (.int (1 : Int32))) (P22 : n0 ≤ ra11) (P23 : Fld Z h0 ra11 ss2 ss12 ss7 (.ref ra12)) (P24 : Fld Z h0 ra11 ss2 ss3 "I" (.int (1 : Int32))) (P25 : Arv Z h0 ra12 ca13 (.object ss4) (10 : Int32) [(.ref ra5), .null, .null, .null, .null, .null, .null, .null, .null, .null] .null) (P26 : Ovr Z ca13 ss4) (P27 : n0 ≤ ra12) (P28 : ra11 ≠ ra12) (P29 : ra10 ≠ ra12) (P30 : ra10 ≠ ra11) (P31 : ra1 ≠ ra12) (P32 : ra1 ≠ ra11) (P33 : n0 ≤ ra1) (P34 : ra10 ≠ ra1) (P35 : ra5 ≠ ra1) (P36 : ra5 ≠ ra11) (P37 : ra5 ≠ ra12) (P38 : Fld Z h0 ra5 ss1 ss15 ss16 (.ref ra1)) (P39 : Fld Z h0 ra1 ss8 ss31 ss18 (.ref ra14)) (P40 : Fld Z h0 ra5 ss1 ss13 "I" (.int (0 : Int32))) (P41 : Exa Z h0 ra14 ss10) (P42 : Fld Z h0 ra14 ss10 ss19 ss20 (.ref ra15)) (P43 : Exa Z h0 ra15 ss2) (P44 : Fld Z h0 ra15 ss2 ss3 "I" (.int (1 : Int32))) (P45 : Fld Z h0 ra15 ss2 ss12 ss7 (.ref ra16)) (P46 : Arv Z h0 ra16 ca18 (.object ss4) (10 : Int32) [(.ref ra17), .null, .null, .null, .null, .null, .null, .null, .null, .null] .null) (P47 : Exa Z h0 ra17 ss0) (P48 : ra14 ≠ ra1) (P49 : ra14 ≠ ra11) (P50 : ra14 ≠ ra12) (P51 : ra15 ≠ ra1) (P52 : ra15 ≠ ra11) (P53 : ra15 ≠ ra12) (P54 : ra16 ≠ ra1) (P55 : ra16 ≠ ra11) (P56 : ra16 ≠ ra12) (P57 : Fld Z h0 ra17 ss0 ss15 ss16 (.ref ra1)) (P58 : Fld Z h0 ra17 ss0 ss9 "I" (.int (-1 : Int32))) (P59 : Fld Z h0 ra17 ss0 ss14 "I" (.int (0 : Int32))) (P60 : Fld Z h0 ra17 ss0 ss11 "I" (.int (-1 : Int32))) (P61 : n0 ≤ ra5) (P62 : ra17 ≠ ra5) (P63 : ra10 ≠ ra5) (P64 : Fld Z h0 ra5 ss1 ss3 "I" (.int (1 : Int32))) (P65 : Fld Z h0 ra17 ss0 ss17 "I" (.int (0 : Int32))) (P66 : n0 ≤ ra17) (P67 : ra17 ≠ ra1) (P68 : ra17 ≠ ra11) (P69 : ra17 ≠ ra12) (P70 : Fld Z h0 ra2 ss0 ss17 "I" (.int (-1 : Int32))) (P71 : Exa Z h0 ra2 ss0) (P72 : Fld Z h0 ra2 ss0 ss15 ss16 .null) (P73 : n0 ≤ ra2) (P74 : ra1 ≠ ra2) (P75 : Fld Z h0 ra14 ss10 ss26 "I" (.int (0 : Int32))) (P76 : Fld Z h0 ra15 ss5 ss6 "I" (.int (1 : Int32))) (P77 : n0 ≤ ra15) (P78 : Ovr Z ca18 ss4) (P79 : n0 ≤ ra16) (P80 : ra15 ≠ ra16) (P81 : ra14 ≠ ra16) (P82 : ra14 ≠ ra15) (P83 : ra14 ≠ ra2) (P84 : ra15 ≠ ra2) (P85 : ra16 ≠ ra2) (P86 : Fld Z h0 ra2 ss0 ss14 "I" (.int (-1 : Int32))) (P87 : Fld Z h0 ra2 ss0 ss9 "I" (.int (-1 : Int32))) (P88 : Fld Z h0 ra2 ss0 ss11 "I" (.int (-1 : Int32))) (P89 : ra2 ≠ ra11) (P90 : ra2 ≠ ra12) (P91 : ra2 ≠ ra17) (P92 : ra2 ≠ ra5) (P93 : ra14 ≠ ra17) (P94 : ra14 ≠ ra5) (P95 : ra15 ≠ ra17) (P96 : ra15 ≠ ra5) (P97 : ra16 ≠ ra17) (P98 : ra16 ≠ ra5) (P99 : Sta Z Z.heap ss29 "APPLIED" ss36 (.ref ra19)) : OwnM l yy8 (.code yy8 k37_ 7 (some (.object ss29))) ⟨8, 4, 24, 118⟩ #[(.ref ra1), (.ref ra2), (.ref ra3)] Z h0 (Q_rm37_43 Z ra1 ra2 ra3 ra4 ra5 ra7 ra8 ra9 ra10 ra11 ra12 ra14 ra15 ra16 ra17 ra19 ca6 ca13 ca18 h0 n0) := by
  refine own_open [ra1, ra11, ra12, ra17, ra5, ra16, ra15, ra2] [(ra1, some (sl24 Z)), (ra1, some (sl26 Z)), (ra11, some (sl23 Z)), (ra11, some (sl17 Z)), (ra12, none), (ra17, some (sl2 Z)), (ra17, some (sl6 Z)), (ra17, some (sl1 Z)), (ra5, some (sl9 Z)), (ra5, some (sl12 Z)), (ra2, some (sl1 Z)), (ra2, some (sl6 Z)), (ra2, some (sl2 Z)), (ra2, some (sl4 Z)), (ra16, none), (ra15, some (sl17 Z)), (ra15, some (sl23 Z)), (ra2, some (sl3 Z))] #[.val (.ref ra1), .val (.ref ra2), .val (.ref ra3), .unset, .unset, .unset, .unset] (plainFor_of_name pn_7) I0 ?_
  intro p e s m below meth c T b S0
  refine gNull b S0 d37_0 1 rfl ?_
  refine gAs b S0 d37_1 rfl #[.val (.ref ra1), .val (.ref ra2), .val (.ref ra3), .val .null, .unset, .unset, .unset] rfl 2 rfl ?_
  refine gNull b S0 d37_2 3 rfl ?_
  refine gAsW b S0 d37_3 rfl #[.val (.ref ra1), .val (.ref ra2), .val (.ref ra3), .val .null, .val .null, .unset, .unset] rfl 5 rfl ?_
  refine gAl b S0 d37_5 rfl rfl 6 rfl ?_
  refine cI (xi := yy61) b S0 d37_6 (W 312 rfl) (W 209 rfl) (fun hZ => mvT hZ (W 210 rfl)) (W 211 rfl) (W 212 rfl) (W 213 rfl) (W 214 rfl) (W 98 rfl) (W 23 rfl) (W 215 rfl) (rm23_27 W S0.i P1) P0 (by decide) (lenOf pd_16 rfl) rfl [] rfl 0 (own_le rfl) rfl 11 rfl fun T1 L1 v1 X1 q1 => ?_
  obtain ⟨nw1_1, rfl, N1q, K1q, KF1q, z1_nw1, R1_0, R1_1, R1_2, R1_3, R1_4⟩ := q1
  have S1 := S0.call X1 N1q K1q KF1q all0 fall0 all0
  refine gRv ?_
  refine gAsW b S1 d37_11 rfl #[.val (.ref ra1), .val (.ref ra2), .val (.ref ra3), .val .null, .val .null, .val (.ref nw1_1), .unset] rfl 13 rfl ?_
  refine gAlW b S1 d37_13 rfl rfl 15 rfl ?_
  refine cI (xi := yy56) b S1 d37_15 (W 313 rfl) (W 232 rfl) (fun hZ => mvT hZ (W 233 rfl)) (W 234 rfl) (W 235 rfl) (W 236 rfl) (W 237 rfl) (W 238 rfl) (W 218 rfl) (W 239 rfl) (rm25_29 W S1.i R1_1 R1_2 (P2.keep K1q nin0)) R1_0 (by decide) (lenOf pd_11 rfl) rfl [] rfl 0 (own_le rfl) rfl 20 rfl fun T2 L2 v2 X2 q2 => ?_
  obtain ⟨rfl, N2q, e2⟩ := q2
  have S2 := S1.same X2 N2q e2
  refine gRv ?_
  refine gIfN b S2 d37_20 rfl 23 rfl ?_
  refine gAlW b S2 d37_23 rfl rfl 25 rfl ?_
  have x3 := (nL (tL P4.lt z1_nw1))
  refine cI (xi := yy57) b S2 d37_25 (W 314 rfl) (W 244 rfl) (fun hZ => mvT hZ (W 245 rfl)) (W 246 rfl) (W 247 rfl) (W 248 rfl) (W 249 rfl) (W 238 rfl) (W 218 rfl) (W 250 rfl) (rm26_30 W S2.i R1_0 R1_2 (P1.keep K1q nin0) R1_4 R1_1 (P2.keep K1q nin0) (P3.keep K1q nin0) (P4.keep K1q nin0) (S0.ge z1_nw1) R1_3 x3) R1_0 (by decide) (lenOf pd_17 rfl) rfl [] rfl 0 (own_le rfl) rfl 30 rfl fun T4 L4 v4 X4 q4 => ?_
  obtain ⟨rfl, N4q, K4q, KF4q, R4_0, R4_1⟩ := q4
  have S4 := S2.call X4 N4q K4q KF4q (allS (.inr (S0.sz z1_nw1)) all0) (fallS (.inr (.inr (S0.sz z1_nw1))) (fallS (.inr (.inr (S0.sz z1_nw1))) fall0)) (allS (S0.ge z1_nw1) all0)
  refine gRv ?_
  refine gCc b S4 d37_30 (W 315 rfl) (Ins.self ((P5.keep K1q).keep K4q)) 33 rfl fun T5 S5 => ?_
  refine gAsW b S5 d37_33 rfl #[.val (.ref ra1), .val (.ref ra2), .val (.ref ra3), .val .null, .val .null, .val (.ref nw1_1), .val (.ref ra5)] rfl 35 rfl ?_
  refine gAlW b S5 d37_35 rfl rfl 37 rfl ?_
  have x6 := (nL (tL P5.lt z1_nw1))
  have f7 := ((P6.keep K1q nin0).keep K4q (ninS x6 nin0))
  refine cV b S5 d37_37 (W 316 rfl) (W 317 rfl) (W 319 rfl) (W 318 rfl) (W 69 rfl) (W 320 rfl) (rm38_44 W S5.i f7) ((P5.keep K1q).keep K4q) (by decide) (lenOf pd_17 rfl) rfl [] rfl 0 (own_le rfl) rfl 40 rfl fun T8 L8 v8 X8 q8 => ?_
  obtain ⟨rfl, N8q, e8⟩ := q8
  have S8 := S5.same X8 N8q e8
  refine gRv ?_
  refine gGs b S8 d37_40 (W 321 rfl) P7 43 rfl fun T9 S9 => ?_
  refine gAc b S9 d37_43 rfl rfl false (decide_eq_false fun q => P8 (Value.ref.inj q)) 52 (by decide) (by decide) ?_
  refine gAlW b S9 d37_52 rfl rfl 54 rfl ?_
  refine cV b S9 d37_54 (W 316 rfl) (W 317 rfl) (W 319 rfl) (W 318 rfl) (W 69 rfl) (W 320 rfl) (rm38_44 W S9.i f7) ((P5.keep K1q).keep K4q) (by decide) (lenOf pd_17 rfl) rfl [] rfl 0 (own_le rfl) rfl 57 rfl fun T10 L10 v10 X10 q10 => ?_
  obtain ⟨rfl, N10q, e10⟩ := q10
  have S10 := S9.same X10 N10q e10
  refine gRv ?_
  refine gGs b S10 d37_57 (W 323 rfl) P9 60 rfl fun T11 S11 => ?_
  refine gAc b S11 d37_60 rfl rfl false (decide_eq_false fun q => P10 (Value.ref.inj q)) 67 (by decide) (by decide) ?_
  refine gGoto b S11 d37_67 13 (by decide) rfl ?_
  refine gAlW b S11 d37_13 rfl rfl 15 rfl ?_
  have f12 := (R1_2.kf K4q KF4q (nofB (sn119 W) (nofB (sn103 W) nof0)))
  have x13 := (nL (tL P0.lt z1_nw1))
  have f14 := ((P2.keep K1q nin0).keep K4q (ninS x13 nin0))
  refine cI (xi := yy56) b S11 d37_15 (W 313 rfl) (W 232 rfl) (fun hZ => mvT hZ (W 233 rfl)) (W 234 rfl) (W 235 rfl) (W 236 rfl) (W 237 rfl) (W 238 rfl) (W 218 rfl) (W 239 rfl) (rm25_42 W S11.i R4_0 f12 f14) (R1_0.keep K4q) (by decide) (lenOf pd_11 rfl) rfl [] rfl 0 (own_le rfl) rfl 20 rfl fun T15 L15 v15 X15 q15 => ?_
  obtain ⟨rfl, N15q, e15⟩ := q15
  have S15 := S11.same X15 N15q e15
  refine gRv ?_
  refine gIfY b S15 d37_20 rfl 70 (by decide) rfl ?_
  refine gAl b S15 d37_70 rfl rfl 71 rfl ?_
  refine gNuY b S15 d37_71 258 (by decide) rfl ?_
  refine gAl b S15 d37_258 rfl rfl 259 rfl ?_
  refine gAl b S15 d37_259 rfl rfl 260 rfl ?_
  refine gAlW b S15 d37_260 rfl rfl 262 rfl ?_
  refine gNnN b S15 d37_262 265 rfl ?_
  refine gGs b S15 d37_265 (W 321 rfl) P7 268 rfl fun T16 S16 => ?_
  refine gGoto b S16 d37_268 274 (by decide) rfl ?_
  refine gAl b S16 d37_274 rfl rfl 275 rfl ?_
  have f17 := ((P1.keep K1q nin0).keep K4q (ninS x13 nin0))
  have f18 := ((P3.keep K1q nin0).keep K4q (ninS x13 nin0))
  have f19 := ((P4.keep K1q nin0).keep K4q (ninS x3 nin0))
  have x20 := (nL (tL P11.lt z1_nw1))
  have f21 := ((P12.keep K1q nin0).keep K4q (ninS x20 nin0))
  have f22 := ((P13.keep K1q nin0).keep K4q (ninS x20 nin0))
  have f23 := ((P15.keep K1q nin0).keep K4q (ninS x20 nin0))
  have f24 := ((P16.keep K1q nin0).keep K4q (ninS x6 nin0))
  have f25 := ((P17.keep K1q nin0).keep K4q (ninS x20 nin0))
  have x26 := (nL (tL P14.lt z1_nw1))
  have f27 := ((P18.keep K1q nin0).keep K4q (ninS x26 nin0))
  have f28 := ((P19.keep K1q nin0).keep K4q (ninS x26 nin0))
  have x29 := (nL (tL P20.lt z1_nw1))
  have f30 := ((P21.keep K1q nin0).keep K4q (ninS x29 nin0))
  have f31 := ((P23.keep K1q nin0).keep K4q (ninS x29 nin0))
  have f32 := ((P24.keep K1q nin0).keep K4q (ninS x29 nin0))
  have x33 := (nL (tL P25.lt z1_nw1))
  have f34 := ((P25.keep K1q nin0).keep K4q (ninS x33 nin0))
  have f35 := ((P38.keep K1q nin0).keep K4q (ninS x6 nin0))
  have f36 := ((P39.keep K1q nin0).keep K4q (ninS x20 nin0))
  have f37 := ((P40.keep K1q nin0).keep K4q (ninS x6 nin0))
  have x38 := (nL (tL P41.lt z1_nw1))
  have f39 := ((P42.keep K1q nin0).keep K4q (ninS x38 nin0))
  have x40 := (nL (tL P43.lt z1_nw1))
  have f41 := ((P44.keep K1q nin0).keep K4q (ninS x40 nin0))
  have f42 := ((P45.keep K1q nin0).keep K4q (ninS x40 nin0))
  have x43 := (nL (tL P46.lt z1_nw1))
  have f44 := ((P46.keep K1q nin0).keep K4q (ninS x43 nin0))
  have x45 := (nL (tL P47.lt z1_nw1))
  have f46 := ((P57.keep K1q nin0).keep K4q (ninS x45 nin0))
  have f47 := ((P58.keep K1q nin0).keep K4q (ninS x45 nin0))
  have f48 := ((P59.keep K1q nin0).keep K4q (ninS x45 nin0))
  have f49 := ((P60.keep K1q nin0).keep K4q (ninS x45 nin0))
  have f50 := ((P64.keep K1q nin0).keep K4q (ninS x6 nin0))
  have f51 := ((P65.keep K1q nin0).keep K4q (ninS x45 nin0))
  have x52 := (nL (tL P70.lt z1_nw1))
  have f53 := ((P70.keep K1q nin0).keep K4q (ninS x52 nin0))
  have f54 := ((P72.keep K1q nin0).keep K4q (ninS x52 nin0))
  have f55 := ((P75.keep K1q nin0).keep K4q (ninS x38 nin0))
  have f56 := ((P76.keep K1q nin0).keep K4q (ninS x40 nin0))
  have f57 := ((P86.keep K1q nin0).keep K4q (ninS x52 nin0))
  have f58 := ((P87.keep K1q nin0).keep K4q (ninS x52 nin0))
  have f59 := ((P88.keep K1q nin0).keep K4q (ninS x52 nin0))
  refine cP b S16 d37_275 (W 325 rfl) (W 326 rfl) (fun hZ => (own_selfP (z := yy3) (mvT hZ (W 172 rfl)) rfl (Cond.privateMethod_at (mvP hZ (W 327 rfl) (args := #[]))) (mvT hZ (W 326 rfl)) (by decide))) (W 327 rfl) (W 2 rfl) (W 328 rfl) (rm39_45 W S16.i ((P0.keep K1q).keep K4q) f17 f14 f18 f19 ((P5.keep K1q).keep K4q) f7 P8 P7 ((P11.keep K1q).keep K4q) f21 f22 ((P14.keep K1q).keep K4q) f23 f24 f25 f27 f28 ((P20.keep K1q).keep K4q) f30 P22 f31 f32 f34 P26 P27 P28 P29 P30 P31 P32 P33 P9 P34 P35 P36 P37 f35 f36 f37 ((P41.keep K1q).keep K4q) f39 ((P43.keep K1q).keep K4q) f41 f42 f44 ((P47.keep K1q).keep K4q) P48 P49 P50 P51 P52 P53 P54 P55 P56 f46 f47 f48 f49 P61 P62 P63 f50 f51 P66 P67 P68 P69 f53 ((P71.keep K1q).keep K4q) f54 P73 P74 f55 f56 P77 P78 P79 P80 P81 P82 P83 P84 P85 f57 f58 f59 P89 P90 P91 P92 P93 P94 P95 P96 P97 P98 P99) ((P11.keep K1q).keep K4q) (by decide) (lenOf pd_27 rfl) rfl [] rfl 0 (own_le rfl) rfl 278 rfl fun T60 L60 v60 X60 q60 => ?_
  obtain ⟨nw1_60, nw2_60, rfl, N60q, K60q, KF60q, z60_nw1, z60_nw2, R60_0, R60_1, R60_2, R60_3, R60_4, R60_5, R60_6, R60_7, R60_8, R60_9, R60_10, R60_11, R60_12, R60_13, R60_14, R60_15, R60_16, R60_17, R60_18, R60_19, R60_20, R60_21, R60_22, R60_23, R60_24, R60_25, R60_26, R60_27, R60_28, R60_29, R60_30, R60_31, R60_32, R60_33, R60_34, R60_35, R60_36⟩ := q60
  have S60 := S16.call X60 N60q K60q KF60q (allS (.inl (mI 7 rfl)) (allS (.inl (mI 6 rfl)) (allS (.inl (mI 5 rfl)) (allS (.inl (mI 4 rfl)) (allS (.inl (mI 3 rfl)) (allS (.inl (mI 2 rfl)) (allS (.inl (mI 1 rfl)) (allS (.inl (mI 0 rfl)) all0)))))))) (fallS (.inl (mI 17 rfl)) (fallS (.inl (mI 16 rfl)) (fallS (.inl (mI 15 rfl)) (fallS (.inl (mI 14 rfl)) (fallS (.inl (mI 13 rfl)) (fallS (.inl (mI 12 rfl)) (fallS (.inl (mI 11 rfl)) (fallS (.inl (mI 10 rfl)) (fallS (.inl (mI 9 rfl)) (fallS (.inl (mI 8 rfl)) (fallS (.inl (mI 7 rfl)) (fallS (.inl (mI 6 rfl)) (fallS (.inl (mI 5 rfl)) (fallS (.inl (mI 4 rfl)) (fallS (.inl (mI 3 rfl)) (fallS (.inl (mI 2 rfl)) (fallS (.inl (mI 1 rfl)) (fallS (.inl (mI 0 rfl)) fall0)))))))))))))))))) (allS P73 (allS P77 (allS P79 (allS P61 (allS P66 (allS P27 (allS P22 (allS P33 all0))))))))
  refine gRv ?_
  exact gRetA b S60 d37_278 rfl rfl rfl (own_le rfl) (own_le rfl) ⟨nw1_60, nw2_60, rfl, S60.f, S60.k, S60.kf, (S16.sz z60_nw1), (S16.sz z60_nw2), R60_17, R60_16, R60_15, R60_14, R60_13, R60_12, R60_11, R60_10, R60_9, R60_8, R60_7, R60_6, R60_5, R60_4, R60_3, R60_2, R60_1, R60_0, R60_18, R60_19, R60_20, R60_21, R60_22, R60_23, R60_24, R60_25, R60_26, R60_27, R60_28, R60_29, R60_30, R60_31, R60_32, R60_33, R60_34, R60_35, R60_36⟩
def Q_rm46_81 (Z : State) (ra1 ra2 : Addr) (h0 : Heap) (n0 : Nat) (v : Option Value) (h : Heap) (L : List Loc) : Prop := v = some (.ref ra2) ∧ Fr n0 L ∧ h = h0
theorem rm46_81 (W : Wd a0 Z) (I0 : IO Z n0 h0) {ra1 ra2 : Addr} (P0 : Fld Z Z.heap ra1 ss29 "kind" ss40 (.ref ra2)) : OwnM l yy1 (.code yy1 k46_ 1 (some (.object ss41))) ⟨0, 0, 0, 0⟩ #[(.ref ra1)] Z h0 (Q_rm46_81 Z ra1 ra2 h0 n0) := by
  refine own_open [] [] #[.val (.ref ra1)] (plainFor_of_name pn_9) I0 ?_
  intro p e s m below meth c T b S0
  refine gAl b S0 d46_0 rfl rfl 1 rfl ?_
  refine gGf (host := "") b S0 d46_1 (.inl (W 376 rfl)) Via.refl (P0.ext I0.2.2) 4 rfl fun T1 S1 => ?_
  exact gRetA b S1 d46_4 rfl rfl rfl (own_le rfl) (own_le rfl) ⟨rfl, S1.f, rfl⟩
def Q_rm47_82 (Z : State) (ra1 : Addr) (h0 : Heap) (n0 : Nat) (v : Option Value) (h : Heap) (L : List Loc) : Prop := v = none ∧ Fr n0 L ∧ Keep h0 h [ra1] ∧ KeepF h0 h [(ra1, some (sl5 Z))] ∧ Fld Z h ra1 ss0 ss25 "I" (.int (1 : Int32))
theorem rm47_82 (W : Wd a0 Z) (I0 : IO Z n0 h0) {ra1 : Addr} (P0 : Fld Z h0 ra1 ss0 ss25 "I" (.int (0 : Int32))) (P1 : Exa Z h0 ra1 ss0) (P2 : n0 ≤ ra1) : OwnM l yy16 (.code yy16 k47_ 2 none) ⟨0, 0, 0, 0⟩ #[(.ref ra1), (.int (1 : Int32))] Z h0 (Q_rm47_82 Z ra1 h0 n0) := by
  refine own_open [ra1] [(ra1, some (sl5 Z))] #[.val (.ref ra1), .val (.int (1 : Int32))] (plainFor_of_name pn_5) I0 ?_
  intro p e s m below meth c T b S0
  refine gAl b S0 d47_0 rfl rfl 1 rfl ?_
  refine gDup b S0 d47_1 rfl 2 rfl ?_
  refine gGfR b S0 d47_2 (W 386 rfl) Via.refl P0 5 rfl fun T1 S1 => ?_
  refine gIl b S1 d47_5 rfl 6 rfl ?_
  refine gAdd b S1 d47_6 1 rfl 7 rfl ?_
  refine gPfR b S1 .int d47_7 (W 386 rfl) Via.refl P0 P1 (W 387 rfl) (W 139 rfl) pf2 rfl rfl P2 (.inl ⟨mI 0 rfl, mI 0 rfl⟩) 10 rfl fun T2 h2 W2 F2 S2 => ?_
  exact gRetV b S2 d47_10 (own_le rfl) (own_le rfl) ⟨rfl, S2.f, S2.k, S2.kf, F2⟩
def Q_rm48_83 (Z : State) (ra1 ra2 ra3 : Addr) (ca4 : ClassId) (h0 : Heap) (n0 : Nat) (v : Option Value) (h : Heap) (L : List Loc) : Prop := v = none ∧ Fr n0 L ∧ Keep h0 h [ra3] ∧ KeepF h0 h [(ra3, some (sl11 Z))] ∧ Fld Z h ra3 ss1 ss21 "I" (.int (0 : Int32))
theorem rm48_83 (W : Wd a0 Z) (I0 : IO Z n0 h0) {ra1 ra2 ra3 : Addr} {ca4 : ClassId} (P0 : Exa Z h0 ra1 ss2) (P1 : Fld Z h0 ra1 ss5 ss6 "I" (.int (1 : Int32))) (P2 : Fld Z h0 ra1 ss2 ss3 "I" (.int (1 : Int32))) (P3 : Fld Z h0 ra1 ss2 ss12 ss7 (.ref ra2)) (P4 : Arv Z h0 ra2 ca4 (.object ss4) (10 : Int32) [(.ref ra3), .null, .null, .null, .null, .null, .null, .null, .null, .null] .null) (P5 : Exa Z h0 ra3 ss1) (P6 : Fld Z h0 ra3 ss1 ss21 "I" (.int (1 : Int32))) (P7 : n0 ≤ ra3) (P8 : ra1 ≠ ra3) : OwnM l yy26 (.code yy26 k48_ 3 none) ⟨3, 1, 4, 38⟩ #[(.ref ra1)] Z h0 (Q_rm48_83 Z ra1 ra2 ra3 ca4 h0 n0) := by
  refine own_open [ra3] [(ra3, some (sl11 Z))] #[.val (.ref ra1), .unset, .unset] (plainFor_of_name pn_5) I0 ?_
  intro p e s m below meth c T b S0
  refine gAl b S0 d48_0 rfl rfl 1 rfl ?_
  refine cI (xi := yy61) b S0 d48_1 (W 208 rfl) (W 209 rfl) (fun hZ => mvT hZ (W 210 rfl)) (W 211 rfl) (W 212 rfl) (W 213 rfl) (W 214 rfl) (W 98 rfl) (W 23 rfl) (W 215 rfl) (rm23_27 W S0.i P1) P0 (by decide) (lenOf pd_16 rfl) rfl [] rfl 0 (own_le rfl) rfl 6 rfl fun T1 L1 v1 X1 q1 => ?_
  obtain ⟨nw1_1, rfl, N1q, K1q, KF1q, z1_nw1, R1_0, R1_1, R1_2, R1_3, R1_4⟩ := q1
  have S1 := S0.call X1 N1q K1q KF1q all0 fall0 all0
  refine gRv ?_
  refine gAs b S1 d48_6 rfl #[.val (.ref ra1), .val (.ref nw1_1), .unset] rfl 7 rfl ?_
  refine gAl b S1 d48_7 rfl rfl 8 rfl ?_
  refine cI (xi := yy56) b S1 d48_8 (W 231 rfl) (W 232 rfl) (fun hZ => mvT hZ (W 233 rfl)) (W 234 rfl) (W 235 rfl) (W 236 rfl) (W 237 rfl) (W 238 rfl) (W 218 rfl) (W 239 rfl) (rm25_29 W S1.i R1_1 R1_2 (P2.keep K1q nin0)) R1_0 (by decide) (lenOf pd_11 rfl) rfl [] rfl 0 (own_le rfl) rfl 13 rfl fun T2 L2 v2 X2 q2 => ?_
  obtain ⟨rfl, N2q, e2⟩ := q2
  have S2 := S1.same X2 N2q e2
  refine gRv ?_
  refine gIfN b S2 d48_13 rfl 16 rfl ?_
  refine gAl b S2 d48_16 rfl rfl 17 rfl ?_
  have x3 := (nL (tL P4.lt z1_nw1))
  refine cI (xi := yy57) b S2 d48_17 (W 243 rfl) (W 244 rfl) (fun hZ => mvT hZ (W 245 rfl)) (W 246 rfl) (W 247 rfl) (W 248 rfl) (W 249 rfl) (W 238 rfl) (W 218 rfl) (W 250 rfl) (rm26_30 W S2.i R1_0 R1_2 (P1.keep K1q nin0) R1_4 R1_1 (P2.keep K1q nin0) (P3.keep K1q nin0) (P4.keep K1q nin0) (S0.ge z1_nw1) R1_3 x3) R1_0 (by decide) (lenOf pd_17 rfl) rfl [] rfl 0 (own_le rfl) rfl 22 rfl fun T4 L4 v4 X4 q4 => ?_
  obtain ⟨rfl, N4q, K4q, KF4q, R4_0, R4_1⟩ := q4
  have S4 := S2.call X4 N4q K4q KF4q (allS (.inr (S0.sz z1_nw1)) all0) (fallS (.inr (.inr (S0.sz z1_nw1))) (fallS (.inr (.inr (S0.sz z1_nw1))) fall0)) (allS (S0.ge z1_nw1) all0)
  refine gRv ?_
  refine gCc b S4 d48_22 (W 67 rfl) (Ins.self ((P5.keep K1q).keep K4q)) 25 rfl fun T5 S5 => ?_
  refine gAs b S5 d48_25 rfl #[.val (.ref ra1), .val (.ref nw1_1), .val (.ref ra3)] rfl 26 rfl ?_
  refine gAl b S5 d48_26 rfl rfl 27 rfl ?_
  refine gIc b S5 d48_27 0 rfl 28 rfl ?_
  have x6 := (nL (tL P5.lt z1_nw1))
  have f7 := ((P6.keep K1q nin0).keep K4q (ninS x6 nin0))
  refine gPfR b S5 .int d48_28 (W 297 rfl) Via.refl f7 ((P5.keep K1q).keep K4q) (W 298 rfl) (W 68 rfl) pf2 rfl rfl P7 (.inl ⟨mI 0 rfl, mI 0 rfl⟩) 31 rfl fun T8 h8 W8 F8 S8 => ?_
  refine gGoto b S8 d48_31 7 (by decide) rfl ?_
  refine gAl b S8 d48_7 rfl rfl 8 rfl ?_
  have f9 := (R4_0.other W8 (Or.inl (nS x6)))
  have f10 := ((R1_2.kf K4q KF4q (nofB (sn119 W) (nofB (sn103 W) nof0))).other W8 (Or.inl (nS x6)))
  have x11 := (nL (tL P0.lt z1_nw1))
  have f12 := (((P2.keep K1q nin0).keep K4q (ninS x11 nin0)).other W8 (Or.inl P8))
  refine cI (xi := yy56) b S8 d48_8 (W 231 rfl) (W 232 rfl) (fun hZ => mvT hZ (W 233 rfl)) (W 234 rfl) (W 235 rfl) (W 236 rfl) (W 237 rfl) (W 238 rfl) (W 218 rfl) (W 239 rfl) (rm25_42 W S8.i f9 f10 f12) ((R1_0.keep K4q).wr W8) (by decide) (lenOf pd_11 rfl) rfl [] rfl 0 (own_le rfl) rfl 13 rfl fun T13 L13 v13 X13 q13 => ?_
  obtain ⟨rfl, N13q, e13⟩ := q13
  have S13 := S8.same X13 N13q e13
  refine gRv ?_
  refine gIfY b S13 d48_13 rfl 34 (by decide) rfl ?_
  exact gRetV b S13 d48_34 (own_le rfl) (own_le rfl) ⟨rfl, S13.f, S13.k, S13.kf, F8⟩
def Q_rm18_24 (Z : State) (ra1 ra2 ra3 ra4 ra5 ra6 ra8 ra9 ra10 ra11 ra14 ra15 ra16 ra17 ra18 ra19 ra21 ra22 : Addr) (ca7 ca12 ca13 ca20 : ClassId) (h0 : Heap) (n0 : Nat) (v : Option Value) (h : Heap) (L : List Loc) : Prop := ∃ nw1 : Addr, ∃ nw2 : Addr, v = some (.ref ra21) ∧ Fr n0 L ∧ Keep h0 h [ra11, ra6, ra2, ra18, ra19, ra10, ra9, ra1] ∧ KeepF h0 h [(ra11, some (sl11 Z)), (ra6, some (sl2 Z)), (ra6, some (sl6 Z)), (ra6, some (sl1 Z)), (ra11, some (sl9 Z)), (ra11, some (sl12 Z)), (ra2, some (sl3 Z)), (ra18, some (sl23 Z)), (ra18, some (sl17 Z)), (ra19, none), (ra2, some (sl4 Z)), (ra2, some (sl2 Z)), (ra2, some (sl6 Z)), (ra2, some (sl1 Z)), (ra10, none), (ra9, some (sl17 Z)), (ra9, some (sl23 Z)), (ra1, some (sl26 Z)), (ra1, some (sl24 Z)), (ra2, some (sl5 Z)), (ra6, some (sl5 Z))] ∧ h0.size ≤ nw1 ∧ h0.size ≤ nw2 ∧ Fld Z h ra11 ss1 ss21 "I" (.int (0 : Int32)) ∧ Fld Z h ra6 ss0 ss14 "I" (.int (1 : Int32)) ∧ Fld Z h ra6 ss0 ss9 "I" (.int (-1 : Int32)) ∧ Fld Z h ra6 ss0 ss11 "I" (.int (-1 : Int32)) ∧ Fld Z h ra11 ss1 ss13 "I" (.int (-1 : Int32)) ∧ Fld Z h ra11 ss1 ss3 "I" (.int (0 : Int32)) ∧ Fld Z h ra2 ss0 ss15 ss16 (.ref ra1) ∧ Fld Z h ra18 ss5 ss6 "I" (.int (2 : Int32)) ∧ Fld Z h ra18 ss2 ss3 "I" (.int (2 : Int32)) ∧ Arv Z h ra19 ca20 (.object ss4) (10 : Int32) [(.ref ra6), (.ref ra2), .null, .null, .null, .null, .null, .null, .null, .null] .null ∧ Fld Z h ra2 ss0 ss17 "I" (.int (1 : Int32)) ∧ Fld Z h ra2 ss0 ss14 "I" (.int (2 : Int32)) ∧ Fld Z h ra2 ss0 ss9 "I" (.int (-1 : Int32)) ∧ Fld Z h ra2 ss0 ss11 "I" (.int (-1 : Int32)) ∧ Arv Z h ra10 ca12 (.object ss4) (10 : Int32) [(.ref ra11), (.ref nw1), (.ref nw2), .null, .null, .null, .null, .null, .null, .null] .null ∧ Fld Z h ra9 ss2 ss3 "I" (.int (3 : Int32)) ∧ Fld Z h ra9 ss5 ss6 "I" (.int (3 : Int32)) ∧ Fld Z h ra1 ss8 ss24 "I" (.int (1 : Int32)) ∧ Fld Z h ra1 ss8 "last" "I" (.int (2 : Int32)) ∧ Fld Z h ra2 ss0 ss25 "I" (.int (1 : Int32)) ∧ Fld Z h ra6 ss0 ss25 "I" (.int (1 : Int32)) ∧ Exa Z h nw1 ss1 ∧ Fld Z h nw1 ss1 ss17 "I" (.int (1 : Int32)) ∧ Fld Z h nw1 ss1 ss21 "I" (.int (0 : Int32)) ∧ Fld Z h nw1 ss1 ss9 "I" (.int (-1 : Int32)) ∧ Fld Z h nw1 ss1 ss15 ss16 (.ref ra1) ∧ Fld Z h nw1 ss1 "kind" ss27 (.ref ra15) ∧ Fld Z h nw1 ss1 ss11 "I" (.int (2 : Int32)) ∧ Fld Z h nw1 ss1 ss3 "I" (.int (1 : Int32)) ∧ Fld Z h nw1 ss1 ss13 "I" (.int (0 : Int32)) ∧ Exa Z h nw2 ss1 ∧ Fld Z h nw2 ss1 ss17 "I" (.int (2 : Int32)) ∧ Fld Z h nw2 ss1 ss21 "I" (.int (0 : Int32)) ∧ Fld Z h nw2 ss1 ss9 "I" (.int (1 : Int32)) ∧ Fld Z h nw2 ss1 ss11 "I" (.int (-1 : Int32)) ∧ Fld Z h nw2 ss1 ss15 ss16 (.ref ra1) ∧ Fld Z h nw2 ss1 "kind" ss27 (.ref ra16) ∧ Fld Z h nw2 ss1 ss13 "I" (.int (1 : Int32)) ∧ Fld Z h nw2 ss1 ss3 "I" (.int (1 : Int32)) ∧ nw2 ≠ nw1
theorem rm18_24 (W : Wd a0 Z) (I0 : IO Z n0 h0) {ra1 ra2 ra3 ra4 ra5 ra6 ra8 ra9 ra10 ra11 ra14 ra15 ra16 ra17 ra18 ra19 ra21 ra22 : Addr} {ca7 ca12 ca13 ca20 : ClassId} (P0 : Exa Z h0 ra3 ss2) (P1 : Fld Z h0 ra3 ss2 ss3 "I" (.int (1 : Int32))) (P2 : Sta Z Z.heap ss2 ss30 ss7 (.ref ra4)) (P3 : Fld Z h0 ra3 ss5 ss6 "I" (.int (1 : Int32))) (P4 : Fld Z h0 ra3 ss2 ss12 ss7 (.ref ra5)) (P5 : Arv Z h0 ra5 ca7 (.object ss4) (10 : Int32) [(.ref ra6), .null, .null, .null, .null, .null, .null, .null, .null, .null] .null) (P6 : Exa Z h0 ra6 ss0) (P7 : Fld Z h0 ra6 ss0 ss15 ss16 (.ref ra1)) (P8 : Fld Z h0 ra1 ss8 ss22 ss18 (.ref ra8)) (P9 : Fld Z h0 ra6 ss0 ss14 "I" (.int (0 : Int32))) (P10 : Exa Z h0 ra8 ss10) (P11 : Fld Z h0 ra8 ss10 ss19 ss20 (.ref ra9)) (P12 : Exa Z h0 ra9 ss2) (P13 : Fld Z h0 ra9 ss2 ss3 "I" (.int (1 : Int32))) (P14 : Fld Z h0 ra9 ss2 ss12 ss7 (.ref ra10)) (P15 : Arv Z h0 ra10 ca12 (.object ss4) (10 : Int32) [(.ref ra11), .null, .null, .null, .null, .null, .null, .null, .null, .null] .null) (P16 : Exa Z h0 ra11 ss1) (P17 : Fld Z h0 ra11 ss1 ss21 "I" (.int (0 : Int32))) (P18 : Arv Z Z.heap ra4 ca13 (.object ss4) (0 : Int32) [] .null) (P19 : n0 ≤ ra11) (P20 : Fld Z h0 ra6 ss0 ss9 "I" (.int (-1 : Int32))) (P21 : Fld Z h0 ra6 ss0 ss11 "I" (.int (-1 : Int32))) (P22 : Fld Z h0 ra11 ss1 ss13 "I" (.int (0 : Int32))) (P23 : ra6 ≠ ra11) (P24 : Exa Z h0 ra1 ss28) (P25 : ra1 ≠ ra11) (P26 : ra8 ≠ ra11) (P27 : ra9 ≠ ra11) (P28 : ra10 ≠ ra11) (P29 : Fld Z h0 ra11 ss1 ss3 "I" (.int (1 : Int32))) (P30 : Fld Z h0 ra11 ss1 ss15 ss16 (.ref ra1)) (P31 : Fld Z h0 ra6 ss0 ss17 "I" (.int (0 : Int32))) (P32 : Fld Z h0 ra11 ss1 ss17 "I" (.int (0 : Int32))) (P33 : n0 ≤ ra6) (P34 : ra3 ≠ ra6) (P35 : ra3 ≠ ra11) (P36 : Fld Z h0 ra11 ss1 "kind" ss27 (.ref ra14)) (P37 : Sta Z Z.heap ss32 "A" ss33 (.ref ra15)) (P38 : ra14 ≠ ra15) (P39 : Sta Z Z.heap ss32 "B" ss33 (.ref ra16)) (P40 : ra14 ≠ ra16) (P41 : Fld Z h0 ra1 ss8 ss24 "I" (.int (-1 : Int32))) (P42 : Fld Z h0 ra1 ss28 ss34 ss35 (.ref ra11)) (P43 : Fld Z h0 ra1 ss8 "last" "I" (.int (-1 : Int32))) (P44 : Fld Z h0 ra8 ss10 ss26 "I" (.int (0 : Int32))) (P45 : Fld Z h0 ra9 ss5 ss6 "I" (.int (1 : Int32))) (P46 : n0 ≤ ra9) (P47 : Ovr Z ca12 ss4) (P48 : n0 ≤ ra10) (P49 : ra9 ≠ ra10) (P50 : ra8 ≠ ra10) (P51 : ra8 ≠ ra9) (P52 : ra1 ≠ ra10) (P53 : ra1 ≠ ra9) (P54 : n0 ≤ ra1) (P55 : ra8 ≠ ra1) (P56 : Fld Z h0 ra1 ss8 ss31 ss18 (.ref ra17)) (P57 : Exa Z h0 ra17 ss10) (P58 : Fld Z h0 ra17 ss10 ss19 ss20 (.ref ra18)) (P59 : Exa Z h0 ra18 ss2) (P60 : Fld Z h0 ra18 ss2 ss3 "I" (.int (1 : Int32))) (P61 : Fld Z h0 ra18 ss2 ss12 ss7 (.ref ra19)) (P62 : Arv Z h0 ra19 ca20 (.object ss4) (10 : Int32) [(.ref ra6), .null, .null, .null, .null, .null, .null, .null, .null, .null] .null) (P63 : ra17 ≠ ra1) (P64 : ra17 ≠ ra9) (P65 : ra17 ≠ ra10) (P66 : ra18 ≠ ra1) (P67 : ra18 ≠ ra9) (P68 : ra18 ≠ ra10) (P69 : ra19 ≠ ra1) (P70 : ra19 ≠ ra9) (P71 : ra19 ≠ ra10) (P72 : ra6 ≠ ra1) (P73 : ra6 ≠ ra9) (P74 : ra6 ≠ ra10) (P75 : Fld Z h0 ra2 ss0 ss17 "I" (.int (-1 : Int32))) (P76 : Exa Z h0 ra2 ss0) (P77 : Fld Z h0 ra2 ss0 ss15 ss16 .null) (P78 : n0 ≤ ra2) (P79 : ra1 ≠ ra2) (P80 : Fld Z h0 ra17 ss10 ss26 "I" (.int (0 : Int32))) (P81 : Fld Z h0 ra18 ss5 ss6 "I" (.int (1 : Int32))) (P82 : n0 ≤ ra18) (P83 : Ovr Z ca20 ss4) (P84 : n0 ≤ ra19) (P85 : ra18 ≠ ra19) (P86 : ra17 ≠ ra19) (P87 : ra17 ≠ ra18) (P88 : ra17 ≠ ra2) (P89 : ra18 ≠ ra2) (P90 : ra19 ≠ ra2) (P91 : Fld Z h0 ra2 ss0 ss14 "I" (.int (-1 : Int32))) (P92 : Fld Z h0 ra2 ss0 ss9 "I" (.int (-1 : Int32))) (P93 : Fld Z h0 ra2 ss0 ss11 "I" (.int (-1 : Int32))) (P94 : ra2 ≠ ra9) (P95 : ra2 ≠ ra10) (P96 : ra2 ≠ ra6) (P97 : ra2 ≠ ra11) (P98 : ra17 ≠ ra6) (P99 : ra17 ≠ ra11) (P100 : ra18 ≠ ra6) (P101 : ra18 ≠ ra11) (P102 : ra19 ≠ ra6) (P103 : ra19 ≠ ra11) (P104 : Sta Z Z.heap ss29 "APPLIED" ss36 (.ref ra21)) (P105 : ra8 ≠ ra6) (P106 : Exa Z Z.heap ra21 ss29) (P107 : Fld Z Z.heap ra21 ss29 "kind" ss40 (.ref ra22)) (P108 : Sta Z Z.heap ss41 "APPLIED" ss40 (.ref ra22)) (P109 : ra3 ≠ ra2) (P110 : ra3 ≠ ra18) (P111 : ra3 ≠ ra19) (P112 : ra3 ≠ ra10) (P113 : ra3 ≠ ra9) (P114 : ra3 ≠ ra1) (P115 : Fld Z h0 ra2 ss0 ss25 "I" (.int (0 : Int32))) (P116 : ra5 ≠ ra11) (P117 : ra5 ≠ ra6) (P118 : ra5 ≠ ra2) (P119 : ra5 ≠ ra18) (P120 : ra5 ≠ ra19) (P121 : ra5 ≠ ra10) (P122 : ra5 ≠ ra9) (P123 : ra5 ≠ ra1) (P124 : Fld Z h0 ra6 ss0 ss25 "I" (.int (0 : Int32))) : OwnM l yy3 (Jvm.Cond.codeWith yy3 k18_ 8 (some (.object ss29)) [((26 : Nat), (98 : Nat), (105 : Nat), (0 : Nat)), ((105 : Nat), (107 : Nat), (105 : Nat), (0 : Nat))]) ⟨9, 9, 49, 136⟩ #[(.ref ra1), (.ref ra2), (.ref ra3)] Z h0 (Q_rm18_24 Z ra1 ra2 ra3 ra4 ra5 ra6 ra8 ra9 ra10 ra11 ra14 ra15 ra16 ra17 ra18 ra19 ra21 ra22 ca7 ca12 ca13 ca20 h0 n0) := by
  refine own_openW [ra11, ra6, ra2, ra18, ra19, ra10, ra9, ra1] [(ra11, some (sl11 Z)), (ra6, some (sl2 Z)), (ra6, some (sl6 Z)), (ra6, some (sl1 Z)), (ra11, some (sl9 Z)), (ra11, some (sl12 Z)), (ra2, some (sl3 Z)), (ra18, some (sl23 Z)), (ra18, some (sl17 Z)), (ra19, none), (ra2, some (sl4 Z)), (ra2, some (sl2 Z)), (ra2, some (sl6 Z)), (ra2, some (sl1 Z)), (ra10, none), (ra9, some (sl17 Z)), (ra9, some (sl23 Z)), (ra1, some (sl26 Z)), (ra1, some (sl24 Z)), (ra2, some (sl5 Z)), (ra6, some (sl5 Z))] #[.val (.ref ra1), .val (.ref ra2), .val (.ref ra3), .unset, .unset, .unset, .unset, .unset] (plainFor_of_name pn_7) I0 ?_
  intro p e s m below meth c T b S0
  refine gAl b S0 d18_0 rfl rfl 1 rfl ?_
  refine cI (xi := yy60) b S0 d18_1 (W 174 rfl) (W 175 rfl) (fun hZ => mvT hZ (W 176 rfl)) (W 177 rfl) (W 178 rfl) (W 179 rfl) (W 180 rfl) (W 98 rfl) (W 23 rfl) (W 181 rfl) (rm19_25 W S0.i P1) P0 (by decide) (lenOf pd_11 rfl) rfl [] rfl 0 (own_le rfl) rfl 6 rfl fun T1 L1 v1 X1 q1 => ?_
  obtain ⟨rfl, N1q, e1⟩ := q1
  have S1 := S0.same X1 N1q e1
  refine gRv ?_
  refine gIfY b S1 d18_6 rfl 21 (by decide) rfl ?_
  refine gAl b S1 d18_21 rfl rfl 22 rfl ?_
  refine cSU (owner := ss8) b S1 d18_22 (W 202 rfl) (W 203 rfl) (W 204 rfl) (W 9 rfl) (W 205 rfl) (rm22_26 W S1.i P2 P0 P3 P1 P4 P5 P6 P7 P8 P9 P10 P11 P12 P13 P14 P15 P16 P17 P18 P19 P20 P21 P22 P23 P25 P26 P27 P28 P29 P30 P31 P32 P33 P34 P35) (by decide) (lenOf pd_23 rfl) rfl [] rfl 0 (own_le rfl) rfl 25 rfl fun T2 L2 v2 X2 q2 => ?_
  obtain ⟨nw1_2, nw2_2, kw1_2, rfl, N2q, K2q, KF2q, z2_nw1, z2_nw2, R2_0, R2_1, R2_2, R2_3, R2_4, R2_5, R2_6, R2_7, R2_8, R2_9, R2_10, R2_11, R2_12⟩ := q2
  have S2 := S1.call X2 N2q K2q KF2q (allS (.inl (mI 1 rfl)) (allS (.inl (mI 0 rfl)) all0)) (fallS (.inl (mI 5 rfl)) (fallS (.inl (mI 4 rfl)) (fallS (.inl (mI 3 rfl)) (fallS (.inl (mI 2 rfl)) (fallS (.inl (mI 1 rfl)) (fallS (.inl (mI 0 rfl)) fall0)))))) (allS P33 (allS P19 all0))
  refine gRv ?_
  refine gAs b S2 d18_25 rfl #[.val (.ref ra1), .val (.ref ra2), .val (.ref ra3), .val (.ref nw1_2), .unset, .unset, .unset, .unset] rfl 26 rfl ?_
  refine gAl b S2 d18_26 rfl rfl 27 rfl ?_
  refine gAl b S2 d18_27 rfl rfl 28 rfl ?_
  refine gAl b S2 d18_28 rfl rfl 29 rfl ?_
  have f3 := (P36.kf K2q KF2q (nofB (sn121 W) (nofB (sn26 W) (nofA (nS P23) (nofA (nS P23) (nofA (nS P23) (nofB (sn123 W) nof0)))))))
  have f4 := (P8.keep K2q (ninS (nS P72) (ninS P25 nin0)))
  have f5 := (P41.keep K2q (ninS (nS P72) (ninS P25 nin0)))
  have f6 := (P42.keep K2q (ninS (nS P72) (ninS P25 nin0)))
  have f7 := (P43.keep K2q (ninS (nS P72) (ninS P25 nin0)))
  have f8 := (P44.keep K2q (ninS P105 (ninS P26 nin0)))
  have f9 := (P11.keep K2q (ninS P105 (ninS P26 nin0)))
  have f10 := (P45.keep K2q (ninS (nS P73) (ninS P27 nin0)))
  have f11 := (P14.keep K2q (ninS (nS P73) (ninS P27 nin0)))
  have f12 := (P13.keep K2q (ninS (nS P73) (ninS P27 nin0)))
  have f13 := (P15.keep K2q (ninS (nS P74) (ninS P28 nin0)))
  have f14 := (P30.kf K2q KF2q (nofB (sn112 W) (nofB (sn23 W) (nofA (nS P23) (nofA (nS P23) (nofA (nS P23) (nofB (sn116 W) nof0)))))))
  have f15 := (P56.keep K2q (ninS (nS P72) (ninS P25 nin0)))
  have f16 := (P58.keep K2q (ninS P98 (ninS P99 nin0)))
  have f17 := (P60.keep K2q (ninS P100 (ninS P101 nin0)))
  have f18 := (P61.keep K2q (ninS P100 (ninS P101 nin0)))
  have f19 := (P62.keep K2q (ninS P102 (ninS P103 nin0)))
  have f20 := (P7.kf K2q KF2q (nofA P23 (nofA P23 (nofB (sn99 W) (nofB (sn98 W) (nofB (sn97 W) (nofA P23 nof0)))))))
  have f21 := (P31.kf K2q KF2q (nofA P23 (nofA P23 (nofB (sn84 W) (nofB (sn83 W) (nofB (sn82 W) (nofA P23 nof0)))))))
  have f22 := (P75.keep K2q (ninS P96 (ninS P97 nin0)))
  have f23 := (P77.keep K2q (ninS P96 (ninS P97 nin0)))
  have f24 := (P80.keep K2q (ninS P98 (ninS P99 nin0)))
  have f25 := (P81.keep K2q (ninS P100 (ninS P101 nin0)))
  have f26 := (P91.keep K2q (ninS P96 (ninS P97 nin0)))
  have f27 := (P92.keep K2q (ninS P96 (ninS P97 nin0)))
  have f28 := (P93.keep K2q (ninS P96 (ninS P97 nin0)))
  refine cP b S2 d18_29 (W 308 rfl) (W 309 rfl) (fun hZ => (own_selfP (z := yy3) (mvT hZ (W 172 rfl)) rfl (Cond.privateMethod_at (mvP hZ (W 310 rfl) (args := #[]))) (mvT hZ (W 309 rfl)) (by decide))) (W 310 rfl) (W 2 rfl) (W 311 rfl) (rm37_43 W S2.i R2_6 R2_9 R2_8 R2_7 R2_10 (P16.keep K2q) f3 P37 P38 P39 P40 (P24.keep K2q) f4 f5 (P10.keep K2q) f6 R2_5 f7 f8 f9 (P12.keep K2q) f10 P46 f11 f12 f13 P47 P48 P49 P50 P51 P52 P53 P54 P55 (nS P25) (nS P27) (nS P28) f14 f15 R2_1 (P57.keep K2q) f16 (P59.keep K2q) f17 f18 f19 (P6.keep K2q) P63 P64 P65 P66 P67 P68 P69 P70 P71 f20 R2_3 R2_4 R2_2 P19 P23 P26 R2_0 f21 P33 P72 P73 P74 f22 (P76.keep K2q) f23 P78 P79 f24 f25 P82 P83 P84 P85 P86 P87 P88 P89 P90 f26 f27 f28 P94 P95 P96 P97 P98 P99 P100 P101 P102 P103 P104) (P24.keep K2q) (by decide) (lenOf pd_14 rfl) rfl [] rfl 0 (own_le rfl) rfl 32 rfl fun T29 L29 v29 X29 q29 => ?_
  obtain ⟨nw1_29, nw2_29, rfl, N29q, K29q, KF29q, z29_nw1, z29_nw2, R29_0, R29_1, R29_2, R29_3, R29_4, R29_5, R29_6, R29_7, R29_8, R29_9, R29_10, R29_11, R29_12, R29_13, R29_14, R29_15, R29_16, R29_17, R29_18, R29_19, R29_20, R29_21, R29_22, R29_23, R29_24, R29_25, R29_26, R29_27, R29_28, R29_29, R29_30, R29_31, R29_32, R29_33, R29_34, R29_35, R29_36⟩ := q29
  have S29 := S2.call X29 N29q K29q KF29q (allS (.inl (mI 7 rfl)) (allS (.inl (mI 6 rfl)) (allS (.inl (mI 5 rfl)) (allS (.inl (mI 1 rfl)) (allS (.inl (mI 0 rfl)) (allS (.inl (mI 4 rfl)) (allS (.inl (mI 3 rfl)) (allS (.inl (mI 2 rfl)) all0)))))))) (fallS (.inl (mI 18 rfl)) (fallS (.inl (mI 17 rfl)) (fallS (.inl (mI 16 rfl)) (fallS (.inl (mI 15 rfl)) (fallS (.inl (mI 14 rfl)) (fallS (.inl (mI 1 rfl)) (fallS (.inl (mI 2 rfl)) (fallS (.inl (mI 3 rfl)) (fallS (.inl (mI 4 rfl)) (fallS (.inl (mI 5 rfl)) (fallS (.inl (mI 13 rfl)) (fallS (.inl (mI 12 rfl)) (fallS (.inl (mI 11 rfl)) (fallS (.inl (mI 10 rfl)) (fallS (.inl (mI 9 rfl)) (fallS (.inl (mI 8 rfl)) (fallS (.inl (mI 7 rfl)) (fallS (.inl (mI 6 rfl)) fall0)))))))))))))))))) (allS P54 (allS P46 (allS P48 (allS P33 (allS P19 (allS P84 (allS P82 (allS P78 all0))))))))
  refine gRv ?_
  refine gAsW b S29 d18_32 rfl #[.val (.ref ra1), .val (.ref ra2), .val (.ref ra3), .val (.ref nw1_2), .val (.ref ra21), .unset, .unset, .unset] rfl 34 rfl ?_
  refine gAlW b S29 d18_34 rfl rfl 36 rfl ?_
  refine cV b S29 d18_36 (W 371 rfl) (W 372 rfl) (W 374 rfl) (W 373 rfl) (W 198 rfl) (W 375 rfl) (rm46_81 W S29.i P107) (P106.ext S29.o.2) (by decide) (lenOf pd_28 rfl) rfl [] rfl 0 (own_le rfl) rfl 39 rfl fun T30 L30 v30 X30 q30 => ?_
  obtain ⟨rfl, N30q, e30⟩ := q30
  have S30 := S29.same X30 N30q e30
  refine gRv ?_
  refine gGs b S30 d18_39 (W 380 rfl) P108 42 rfl fun T31 S31 => ?_
  refine gAc b S31 d18_42 rfl rfl true (decide_eq_true rfl) 45 (by decide) (by decide) ?_
  refine gAl b S31 d18_45 rfl rfl 46 rfl ?_
  refine gAl b S31 d18_46 rfl rfl 47 rfl ?_
  have f32 := ((P1.keep K2q (ninS P34 (ninS P35 nin0))).keep K29q (ninS P114 (ninS P113 (ninS P112 (ninS P34 (ninS P35 (ninS P111 (ninS P110 (ninS P109 nin0)))))))))
  refine cI (xi := yy62) b S31 d18_47 (W 381 rfl) (W 127 rfl) (fun hZ => mvT hZ (W 128 rfl)) (W 129 rfl) (W 130 rfl) (W 131 rfl) (W 132 rfl) (W 98 rfl) (W 23 rfl) (W 133 rfl) (rm16_15 W S31.i f32) ((P0.keep K2q).keep K29q) (by decide) (lenOf pd_7 rfl) rfl [(.ref ra2)] rfl 1 (own_le rfl) rfl 52 rfl fun T33 L33 v33 X33 q33 => ?_
  obtain ⟨rfl, N33q, e33⟩ := q33
  have S33 := S31.same X33 N33q e33
  refine gRv ?_
  have f34 := ((P115.keep K2q (ninS P96 (ninS P97 nin0))).kf K29q KF29q (nofA (nS P79) (nofA (nS P79) (nofA P94 (nofA P94 (nofA P95 (nofA P96 (nofA P96 (nofA P96 (nofA P97 (nofA P97 (nofB (sn128 W) (nofB (sn127 W) (nofB (sn126 W) (nofB (sn125 W) (nofA (nS P90) (nofA (nS P89) (nofA (nS P89) (nofB (sn124 W) nof0)))))))))))))))))))
  refine cSU (owner := ss8) b S33 d18_52 (W 382 rfl) (W 383 rfl) (W 384 rfl) (W 9 rfl) (W 385 rfl) (rm47_82 W S33.i f34 ((P76.keep K2q).keep K29q) P78) (by decide) (lenOf pd_29 rfl) rfl [] rfl 0 (own_le rfl) rfl 55 rfl fun T35 L35 v35 X35 q35 => ?_
  obtain ⟨rfl, N35q, K35q, KF35q, R35_0⟩ := q35
  have S35 := S33.call X35 N35q K35q KF35q (allS (.inl (mI 2 rfl)) all0) (fallS (.inl (mI 19 rfl)) fall0) (allS P78 all0)
  refine gRn ?_
  refine gAl b S35 d18_55 rfl rfl 56 rfl ?_
  have f36 := (((P3.keep K2q (ninS P34 (ninS P35 nin0))).keep K29q (ninS P114 (ninS P113 (ninS P112 (ninS P34 (ninS P35 (ninS P111 (ninS P110 (ninS P109 nin0))))))))).keep K35q (ninS P109 nin0))
  have f37 := (((P0.keep K2q).keep K29q).keep K35q)
  refine cI (xi := yy61) b S35 d18_56 (W 312 rfl) (W 209 rfl) (fun hZ => mvT hZ (W 210 rfl)) (W 211 rfl) (W 212 rfl) (W 213 rfl) (W 214 rfl) (W 98 rfl) (W 23 rfl) (W 215 rfl) (rm23_27 W S35.i f36) f37 (by decide) (lenOf pd_16 rfl) rfl [] rfl 0 (own_le rfl) rfl 61 rfl fun T38 L38 v38 X38 q38 => ?_
  obtain ⟨nw1_38, rfl, N38q, K38q, KF38q, z38_nw1, R38_0, R38_1, R38_2, R38_3, R38_4⟩ := q38
  have S38 := S35.call X38 N38q K38q KF38q all0 fall0 all0
  refine gRv ?_
  refine gAsW b S38 d18_61 rfl #[.val (.ref ra1), .val (.ref ra2), .val (.ref ra3), .val (.ref nw1_2), .val (.ref ra21), .val (.ref nw1_38), .unset, .unset] rfl 63 rfl ?_
  refine gAlW b S38 d18_63 rfl rfl 65 rfl ?_
  have f39 := ((f32.keep K35q (ninS P109 nin0)).keep K38q nin0)
  refine cI (xi := yy56) b S38 d18_65 (W 313 rfl) (W 232 rfl) (fun hZ => mvT hZ (W 233 rfl)) (W 234 rfl) (W 235 rfl) (W 236 rfl) (W 237 rfl) (W 238 rfl) (W 218 rfl) (W 239 rfl) (rm25_29 W S38.i R38_1 R38_2 f39) R38_0 (by decide) (lenOf pd_11 rfl) rfl [] rfl 0 (own_le rfl) rfl 70 rfl fun T40 L40 v40 X40 q40 => ?_
  obtain ⟨rfl, N40q, e40⟩ := q40
  have S40 := S38.same X40 N40q e40
  refine gRv ?_
  refine gIfN b S40 d18_70 rfl 73 rfl ?_
  refine gAlW b S40 d18_73 rfl rfl 75 rfl ?_
  have f41 := ((((P4.keep K2q (ninS P34 (ninS P35 nin0))).keep K29q (ninS P114 (ninS P113 (ninS P112 (ninS P34 (ninS P35 (ninS P111 (ninS P110 (ninS P109 nin0))))))))).keep K35q (ninS P109 nin0)).keep K38q nin0)
  have f42 := ((((P5.keep K2q (ninS P117 (ninS P116 nin0))).keep K29q (ninS P123 (ninS P122 (ninS P121 (ninS P117 (ninS P116 (ninS P120 (ninS P119 (ninS P118 nin0))))))))).keep K35q (ninS P118 nin0)).keep K38q nin0)
  have x43 := (nL (tL (tL (tL (tL P5.lt K2q.1) K29q.1) K35q.1) z38_nw1))
  refine cI (xi := yy57) b S40 d18_75 (W 314 rfl) (W 244 rfl) (fun hZ => mvT hZ (W 245 rfl)) (W 246 rfl) (W 247 rfl) (W 248 rfl) (W 249 rfl) (W 238 rfl) (W 218 rfl) (W 250 rfl) (rm26_30 W S40.i R38_0 R38_2 (f36.keep K38q nin0) R38_4 R38_1 f39 f41 f42 (S35.ge z38_nw1) R38_3 x43) R38_0 (by decide) (lenOf pd_17 rfl) rfl [] rfl 0 (own_le rfl) rfl 80 rfl fun T44 L44 v44 X44 q44 => ?_
  obtain ⟨rfl, N44q, K44q, KF44q, R44_0, R44_1⟩ := q44
  have S44 := S40.call X44 N44q K44q KF44q (allS (.inr (S35.sz z38_nw1)) all0) (fallS (.inr (.inr (S35.sz z38_nw1))) (fallS (.inr (.inr (S35.sz z38_nw1))) fall0)) (allS (S35.ge z38_nw1) all0)
  refine gRv ?_
  have f45 := (((((P6.keep K2q).keep K29q).keep K35q).keep K38q).keep K44q)
  refine gCc b S44 d18_80 (W 388 rfl) (Ins.self f45) 83 rfl fun T46 S46 => ?_
  refine gAsW b S46 d18_83 rfl #[.val (.ref ra1), .val (.ref ra2), .val (.ref ra3), .val (.ref nw1_2), .val (.ref ra21), .val (.ref nw1_38), .val (.ref ra6), .unset] rfl 85 rfl ?_
  refine gAlW b S46 d18_85 rfl rfl 87 rfl ?_
  refine gIc b S46 d18_87 1 rfl 88 rfl ?_
  have x47 := (nS P100)
  have x48 := (nS P102)
  have x49 := (nL (tL (tL (tL (tL P6.lt K2q.1) K29q.1) K35q.1) z38_nw1))
  have f50 := (((((P124.kf K2q KF2q (nofA P23 (nofA P23 (nofB (sn128 W) (nofB (sn127 W) (nofB (sn126 W) (nofA P23 nof0))))))).kf K29q KF29q (nofA P72 (nofA P72 (nofA P73 (nofA P73 (nofA P74 (nofB (sn126 W) (nofB (sn127 W) (nofB (sn128 W) (nofA P23 (nofA P23 (nofA (nS P96) (nofA (nS P96) (nofA (nS P96) (nofA (nS P96) (nofA x48 (nofA x47 (nofA x47 (nofA (nS P96) nof0))))))))))))))))))).keep K35q (ninS (nS P96) nin0)).keep K38q nin0).keep K44q (ninS x49 nin0))
  refine cSU (owner := ss8) b S46 d18_88 (W 382 rfl) (W 383 rfl) (W 384 rfl) (W 9 rfl) (W 385 rfl) (rm47_82 W S46.i f50 f45 P33) (by decide) (lenOf pd_29 rfl) rfl [] rfl 0 (own_le rfl) rfl 91 rfl fun T51 L51 v51 X51 q51 => ?_
  obtain ⟨rfl, N51q, K51q, KF51q, R51_0⟩ := q51
  have S51 := S46.call X51 N51q K51q KF51q (allS (.inl (mI 1 rfl)) all0) (fallS (.inl (mI 20 rfl)) fall0) (allS P33 all0)
  refine gRn ?_
  refine gGoto b S51 d18_91 63 (by decide) rfl ?_
  refine gAlW b S51 d18_63 rfl rfl 65 rfl ?_
  have f52 := (R44_0.keep K51q (ninS (nS x49) nin0))
  have f53 := ((R38_2.kf K44q KF44q (nofB (sn119 W) (nofB (sn103 W) nof0))).keep K51q (ninS (nS x49) nin0))
  have x54 := (nL (tL (tL (tL (tL P0.lt K2q.1) K29q.1) K35q.1) z38_nw1))
  have f55 := ((f39.keep K44q (ninS x54 nin0)).keep K51q (ninS P34 nin0))
  refine cI (xi := yy56) b S51 d18_65 (W 313 rfl) (W 232 rfl) (fun hZ => mvT hZ (W 233 rfl)) (W 234 rfl) (W 235 rfl) (W 236 rfl) (W 237 rfl) (W 238 rfl) (W 218 rfl) (W 239 rfl) (rm25_42 W S51.i f52 f53 f55) ((R38_0.keep K44q).keep K51q) (by decide) (lenOf pd_11 rfl) rfl [] rfl 0 (own_le rfl) rfl 70 rfl fun T56 L56 v56 X56 q56 => ?_
  obtain ⟨rfl, N56q, e56⟩ := q56
  have S56 := S51.same X56 N56q e56
  refine gRv ?_
  refine gIfY b S56 d18_70 rfl 94 (by decide) rfl ?_
  refine gAlW b S56 d18_94 rfl rfl 96 rfl ?_
  refine gAsW b S56 d18_96 rfl #[.val (.ref ra1), .val (.ref ra2), .val (.ref ra3), .val (.ref nw1_2), .val (.ref ra21), .val (.ref ra21), .val (.ref ra6), .unset] rfl 98 rfl ?_
  refine gAl b S56 d18_98 rfl rfl 99 rfl ?_
  have f57 := (((((R2_6.keep K29q).keep K35q).keep K38q).keep K44q).keep K51q)
  have x58 := (nS (nL (tL P75.lt z2_nw1)))
  have x59 := (nS (nL (tL P59.lt z2_nw1)))
  have x60 := (nS (nL (tL P62.lt z2_nw1)))
  have x61 := (nS (nL (tL P16.lt z2_nw1)))
  have x62 := (nS (nL (tL P6.lt z2_nw1)))
  have x63 := (nS (nL (tL P15.lt z2_nw1)))
  have x64 := (nS (nL (tL P12.lt z2_nw1)))
  have x65 := (nS (nL (tL P8.lt z2_nw1)))
  have x66 := (nL (tL (tL (tL R2_6.lt K29q.1) K35q.1) z38_nw1))
  have f67 := (((((R2_9.keep K29q (ninS x65 (ninS x64 (ninS x63 (ninS x62 (ninS x61 (ninS x60 (ninS x59 (ninS x58 nin0))))))))).keep K35q (ninS x58 nin0)).keep K38q nin0).keep K44q (ninS x66 nin0)).keep K51q (ninS x62 nin0))
  have f68 := (((((R2_8.keep K29q (ninS x65 (ninS x64 (ninS x63 (ninS x62 (ninS x61 (ninS x60 (ninS x59 (ninS x58 nin0))))))))).keep K35q (ninS x58 nin0)).keep K38q nin0).keep K44q (ninS x66 nin0)).keep K51q (ninS x62 nin0))
  have f69 := (((((R2_7.keep K29q (ninS x65 (ninS x64 (ninS x63 (ninS x62 (ninS x61 (ninS x60 (ninS x59 (ninS x58 nin0))))))))).keep K35q (ninS x58 nin0)).keep K38q nin0).keep K44q (ninS x66 nin0)).keep K51q (ninS x62 nin0))
  have x70 := (nS (nL (tL P75.lt z2_nw2)))
  have x71 := (nS (nL (tL P59.lt z2_nw2)))
  have x72 := (nS (nL (tL P62.lt z2_nw2)))
  have x73 := (nS (nL (tL P16.lt z2_nw2)))
  have x74 := (nS (nL (tL P6.lt z2_nw2)))
  have x75 := (nS (nL (tL P15.lt z2_nw2)))
  have x76 := (nS (nL (tL P12.lt z2_nw2)))
  have x77 := (nS (nL (tL P8.lt z2_nw2)))
  have x78 := (nL (tL (tL (tL R2_10.lt K29q.1) K35q.1) z38_nw1))
  have f79 := (((((R2_10.keep K29q (ninS x77 (ninS x76 (ninS x75 (ninS x74 (ninS x73 (ninS x72 (ninS x71 (ninS x70 nin0))))))))).keep K35q (ninS x70 nin0)).keep K38q nin0).keep K44q (ninS x78 nin0)).keep K51q (ninS x74 nin0))
  have f80 := ((((((P16.keep K2q).keep K29q).keep K35q).keep K38q).keep K44q).keep K51q)
  have x81 := (nS P101)
  have x82 := (nS P103)
  have x83 := (nL (tL (tL (tL (tL P16.lt K2q.1) K29q.1) K35q.1) z38_nw1))
  have f84 := (((((R2_5.kf K29q KF29q (nofA (nS P25) (nofA (nS P25) (nofA (nS P27) (nofA (nS P27) (nofA (nS P28) (nofA (nS P23) (nofA (nS P23) (nofA (nS P23) (nofB (sn57 W) (nofB (sn118 W) (nofA (nS P97) (nofA (nS P97) (nofA (nS P97) (nofA (nS P97) (nofA x82 (nofA x81 (nofA x81 (nofA (nS P97) nof0))))))))))))))))))).keep K35q (ninS (nS P97) nin0)).keep K38q nin0).keep K44q (ninS x83 nin0)).keep K51q (ninS (nS P23) nin0))
  refine cSU (owner := ss8) b S56 d18_99 (W 389 rfl) (W 390 rfl) (W 391 rfl) (W 9 rfl) (W 392 rfl) (rm48_83 W S56.i f57 f67 f68 f69 f79 f80 f84 P19 x61) (by decide) (lenOf pd_30 rfl) rfl [] rfl 0 (own_le rfl) rfl 102 rfl fun T85 L85 v85 X85 q85 => ?_
  obtain ⟨rfl, N85q, K85q, KF85q, R85_0⟩ := q85
  have S85 := S56.call X85 N85q K85q KF85q (allS (.inl (mI 0 rfl)) all0) (fallS (.inl (mI 0 rfl)) fall0) (allS P19 all0)
  refine gRn ?_
  refine gAlW b S85 d18_102 rfl rfl 104 rfl ?_
  have f86 := (((((R29_5.keep K35q (ninS (nS P96) nin0)).keep K38q nin0).keep K44q (ninS x49 nin0)).kf K51q KF51q (nofB (sn129 W) nof0)).keep K85q (ninS P23 nin0))
  have f87 := (((((R29_6.keep K35q (ninS (nS P96) nin0)).keep K38q nin0).keep K44q (ninS x49 nin0)).kf K51q KF51q (nofB (sn130 W) nof0)).keep K85q (ninS P23 nin0))
  have f88 := (((((R29_7.keep K35q (ninS (nS P96) nin0)).keep K38q nin0).keep K44q (ninS x49 nin0)).kf K51q KF51q (nofB (sn131 W) nof0)).keep K85q (ninS P23 nin0))
  have f89 := (((((R29_8.keep K35q (ninS (nS P97) nin0)).keep K38q nin0).keep K44q (ninS x83 nin0)).keep K51q (ninS (nS P23) nin0)).kf K85q KF85q (nofB (sn114 W) nof0))
  have f90 := (((((R29_9.keep K35q (ninS (nS P97) nin0)).keep K38q nin0).keep K44q (ninS x83 nin0)).keep K51q (ninS (nS P23) nin0)).kf K85q KF85q (nofB (sn115 W) nof0))
  have x91 := (nL (tL (tL (tL (tL P75.lt K2q.1) K29q.1) K35q.1) z38_nw1))
  have f92 := (((((R29_17.kf K35q KF35q (nofB (sn132 W) nof0)).keep K38q nin0).keep K44q (ninS x91 nin0)).keep K51q (ninS P96 nin0)).keep K85q (ninS P97 nin0))
  have x93 := (nL (tL (tL (tL (tL P59.lt K2q.1) K29q.1) K35q.1) z38_nw1))
  have f94 := (((((R29_16.keep K35q (ninS P89 nin0)).keep K38q nin0).keep K44q (ninS x93 nin0)).keep K51q (ninS P100 nin0)).keep K85q (ninS P101 nin0))
  have f95 := (((((R29_15.keep K35q (ninS P89 nin0)).keep K38q nin0).keep K44q (ninS x93 nin0)).keep K51q (ninS P100 nin0)).keep K85q (ninS P101 nin0))
  have x96 := (nL (tL (tL (tL (tL P62.lt K2q.1) K29q.1) K35q.1) z38_nw1))
  have f97 := (((((R29_14.keep K35q (ninS P90 nin0)).keep K38q nin0).keep K44q (ninS x96 nin0)).keep K51q (ninS P102 nin0)).keep K85q (ninS P103 nin0))
  have f98 := (((((R29_13.kf K35q KF35q (nofB (sn133 W) nof0)).keep K38q nin0).keep K44q (ninS x91 nin0)).keep K51q (ninS P96 nin0)).keep K85q (ninS P97 nin0))
  have f99 := (((((R29_12.kf K35q KF35q (nofB (sn129 W) nof0)).keep K38q nin0).keep K44q (ninS x91 nin0)).keep K51q (ninS P96 nin0)).keep K85q (ninS P97 nin0))
  have f100 := (((((R29_11.kf K35q KF35q (nofB (sn130 W) nof0)).keep K38q nin0).keep K44q (ninS x91 nin0)).keep K51q (ninS P96 nin0)).keep K85q (ninS P97 nin0))
  have f101 := (((((R29_10.kf K35q KF35q (nofB (sn131 W) nof0)).keep K38q nin0).keep K44q (ninS x91 nin0)).keep K51q (ninS P96 nin0)).keep K85q (ninS P97 nin0))
  have x102 := (nL (tL (tL (tL (tL P15.lt K2q.1) K29q.1) K35q.1) z38_nw1))
  have f103 := (((((R29_4.keep K35q (ninS (nS P95) nin0)).keep K38q nin0).keep K44q (ninS x102 nin0)).keep K51q (ninS (nS P74) nin0)).keep K85q (ninS P28 nin0))
  have x104 := (nL (tL (tL (tL (tL P12.lt K2q.1) K29q.1) K35q.1) z38_nw1))
  have f105 := (((((R29_3.keep K35q (ninS (nS P94) nin0)).keep K38q nin0).keep K44q (ninS x104 nin0)).keep K51q (ninS (nS P73) nin0)).keep K85q (ninS P27 nin0))
  have f106 := (((((R29_2.keep K35q (ninS (nS P94) nin0)).keep K38q nin0).keep K44q (ninS x104 nin0)).keep K51q (ninS (nS P73) nin0)).keep K85q (ninS P27 nin0))
  have x107 := (nL (tL (tL (tL (tL P8.lt K2q.1) K29q.1) K35q.1) z38_nw1))
  have f108 := (((((R29_1.keep K35q (ninS P79 nin0)).keep K38q nin0).keep K44q (ninS x107 nin0)).keep K51q (ninS (nS P72) nin0)).keep K85q (ninS P25 nin0))
  have f109 := (((((R29_0.keep K35q (ninS P79 nin0)).keep K38q nin0).keep K44q (ninS x107 nin0)).keep K51q (ninS (nS P72) nin0)).keep K85q (ninS P25 nin0))
  have f110 := ((((R35_0.keep K38q nin0).keep K44q (ninS x91 nin0)).keep K51q (ninS P96 nin0)).keep K85q (ninS P97 nin0))
  have f111 := (R51_0.keep K85q (ninS P23 nin0))
  have f112 := (((((R29_18.keep K35q).keep K38q).keep K44q).keep K51q).keep K85q)
  have x113 := (nS (nL (tL (tL P75.lt K2q.1) z29_nw1)))
  have x114 := (nL (tL (tL R29_18.lt K35q.1) z38_nw1))
  have x115 := (nS (nL (tL (tL P6.lt K2q.1) z29_nw1)))
  have x116 := (nS (nL (tL (tL P16.lt K2q.1) z29_nw1)))
  have f117 := (((((R29_19.keep K35q (ninS x113 nin0)).keep K38q nin0).keep K44q (ninS x114 nin0)).keep K51q (ninS x115 nin0)).keep K85q (ninS x116 nin0))
  have f118 := (((((R29_20.keep K35q (ninS x113 nin0)).keep K38q nin0).keep K44q (ninS x114 nin0)).keep K51q (ninS x115 nin0)).keep K85q (ninS x116 nin0))
  have f119 := (((((R29_21.keep K35q (ninS x113 nin0)).keep K38q nin0).keep K44q (ninS x114 nin0)).keep K51q (ninS x115 nin0)).keep K85q (ninS x116 nin0))
  have f120 := (((((R29_22.keep K35q (ninS x113 nin0)).keep K38q nin0).keep K44q (ninS x114 nin0)).keep K51q (ninS x115 nin0)).keep K85q (ninS x116 nin0))
  have f121 := (((((R29_23.keep K35q (ninS x113 nin0)).keep K38q nin0).keep K44q (ninS x114 nin0)).keep K51q (ninS x115 nin0)).keep K85q (ninS x116 nin0))
  have f122 := (((((R29_24.keep K35q (ninS x113 nin0)).keep K38q nin0).keep K44q (ninS x114 nin0)).keep K51q (ninS x115 nin0)).keep K85q (ninS x116 nin0))
  have f123 := (((((R29_25.keep K35q (ninS x113 nin0)).keep K38q nin0).keep K44q (ninS x114 nin0)).keep K51q (ninS x115 nin0)).keep K85q (ninS x116 nin0))
  have f124 := (((((R29_26.keep K35q (ninS x113 nin0)).keep K38q nin0).keep K44q (ninS x114 nin0)).keep K51q (ninS x115 nin0)).keep K85q (ninS x116 nin0))
  have f125 := (((((R29_27.keep K35q).keep K38q).keep K44q).keep K51q).keep K85q)
  have x126 := (nS (nL (tL (tL P75.lt K2q.1) z29_nw2)))
  have x127 := (nL (tL (tL R29_27.lt K35q.1) z38_nw1))
  have x128 := (nS (nL (tL (tL P6.lt K2q.1) z29_nw2)))
  have x129 := (nS (nL (tL (tL P16.lt K2q.1) z29_nw2)))
  have f130 := (((((R29_28.keep K35q (ninS x126 nin0)).keep K38q nin0).keep K44q (ninS x127 nin0)).keep K51q (ninS x128 nin0)).keep K85q (ninS x129 nin0))
  have f131 := (((((R29_29.keep K35q (ninS x126 nin0)).keep K38q nin0).keep K44q (ninS x127 nin0)).keep K51q (ninS x128 nin0)).keep K85q (ninS x129 nin0))
  have f132 := (((((R29_30.keep K35q (ninS x126 nin0)).keep K38q nin0).keep K44q (ninS x127 nin0)).keep K51q (ninS x128 nin0)).keep K85q (ninS x129 nin0))
  have f133 := (((((R29_31.keep K35q (ninS x126 nin0)).keep K38q nin0).keep K44q (ninS x127 nin0)).keep K51q (ninS x128 nin0)).keep K85q (ninS x129 nin0))
  have f134 := (((((R29_32.keep K35q (ninS x126 nin0)).keep K38q nin0).keep K44q (ninS x127 nin0)).keep K51q (ninS x128 nin0)).keep K85q (ninS x129 nin0))
  have f135 := (((((R29_33.keep K35q (ninS x126 nin0)).keep K38q nin0).keep K44q (ninS x127 nin0)).keep K51q (ninS x128 nin0)).keep K85q (ninS x129 nin0))
  have f136 := (((((R29_34.keep K35q (ninS x126 nin0)).keep K38q nin0).keep K44q (ninS x127 nin0)).keep K51q (ninS x128 nin0)).keep K85q (ninS x129 nin0))
  have f137 := (((((R29_35.keep K35q (ninS x126 nin0)).keep K38q nin0).keep K44q (ninS x127 nin0)).keep K51q (ninS x128 nin0)).keep K85q (ninS x129 nin0))
  exact gRetA b S85 d18_104 rfl rfl rfl (own_le rfl) (own_le rfl) ⟨nw1_29, nw2_29, rfl, S85.f, S85.k, S85.kf, (S2.sz z29_nw1), (S2.sz z29_nw2), R85_0, f86, f87, f88, f89, f90, f92, f94, f95, f97, f98, f99, f100, f101, f103, f105, f106, f108, f109, f110, f111, f112, f117, f118, f119, f120, f121, f122, f123, f124, f125, f130, f131, f132, f133, f134, f135, f136, f137, R29_36⟩
def Q_rm29_87 (Z : State) (ra1 ra2 ra3 ra4 ra5 ra6 ra7 ra8 : Addr) (ca9 : ClassId) (h0 : Heap) (n0 : Nat) (v : Option Value) (h : Heap) (L : List Loc) : Prop := v = some (.ref ra7) ∧ Fr n0 L ∧ h = h0
theorem rm29_87 (W : Wd a0 Z) (I0 : IO Z n0 h0) {ra1 ra2 ra3 ra4 ra5 ra6 ra7 ra8 : Addr} {ca9 : ClassId} (P0 : Fld Z h0 ra1 ss0 ss15 ss16 (.ref ra2)) (P1 : Fld Z h0 ra2 ss8 ss22 ss18 (.ref ra3)) (P2 : Fld Z h0 ra1 ss0 ss14 "I" (.int (1 : Int32))) (P3 : Exa Z h0 ra3 ss10) (P4 : Fld Z h0 ra3 ss10 ss19 ss20 (.ref ra4)) (P5 : Exa Z h0 ra4 ss2) (P6 : Fld Z h0 ra4 ss2 ss3 "I" (.int (3 : Int32))) (P7 : Fld Z h0 ra4 ss2 ss12 ss7 (.ref ra5)) (P8 : Arv Z h0 ra5 ca9 (.object ss4) (10 : Int32) [(.ref ra6), (.ref ra7), (.ref ra8), .null, .null, .null, .null, .null, .null, .null] .null) (P9 : Exa Z h0 ra7 ss1) : OwnM l yy37 (.code yy37 k29_ 1 (some (.object ss1))) ⟨4, 0, 0, 53⟩ #[(.ref ra1)] Z h0 (Q_rm29_87 Z ra1 ra2 ra3 ra4 ra5 ra6 ra7 ra8 ca9 h0 n0) := by
  refine own_open [] [] #[.val (.ref ra1)] (plainFor_of_name pn_8) I0 ?_
  intro p e s m below meth c T b S0
  refine gAl b S0 d29_0 rfl rfl 1 rfl ?_
  refine gGf (host := "") b S0 d29_1 (.inl (W 267 rfl)) Via.refl P0 4 rfl fun T1 S1 => ?_
  refine gNnY b S1 d29_4 11 (by decide) rfl ?_
  refine gAl b S1 d29_11 rfl rfl 12 rfl ?_
  refine gGf (host := "") b S1 d29_12 (.inl (W 267 rfl)) Via.refl P0 15 rfl fun T2 S2 => ?_
  refine gGf b S2 d29_15 (.inr (W 268 rfl)) Via.refl P1 18 rfl fun T3 S3 => ?_
  refine gAl b S3 d29_18 rfl rfl 19 rfl ?_
  refine gGf (host := "") b S3 d29_19 (.inl (W 155 rfl)) Via.refl P2 22 rfl fun T4 S4 => ?_
  refine cV b S4 d29_22 (W 269 rfl) (W 270 rfl) (W 272 rfl) (W 271 rfl) (W 16 rfl) (W 273 rfl) (rm30_63 W S4.i P4 P5 P6 P7 P8) P3 (by decide) (lenOf pd_19 rfl) rfl [] rfl 0 (own_le rfl) rfl 25 rfl fun T5 L5 v5 X5 q5 => ?_
  obtain ⟨rfl, N5q, e5⟩ := q5
  have S5 := S4.same X5 N5q e5
  refine gRv ?_
  refine gCc b S5 d29_25 (W 295 rfl) (Ins.self P9) 28 rfl fun T6 S6 => ?_
  exact gRetA b S6 d29_28 rfl rfl rfl (own_le rfl) (own_le rfl) ⟨rfl, S6.f, rfl⟩
def Q_rm36_89 (Z : State) (ra1 ra2 ra3 ra4 ra5 ra6 ra7 ra8 : Addr) (ca9 : ClassId) (h0 : Heap) (n0 : Nat) (v : Option Value) (h : Heap) (L : List Loc) : Prop := v = none ∧ Fr n0 L ∧ Keep h0 h [ra7] ∧ KeepF h0 h [(ra7, some (sl9 Z)), (ra7, some (sl12 Z))] ∧ Fld Z h ra7 ss1 ss13 "I" (.int (-1 : Int32)) ∧ Fld Z h ra7 ss1 ss3 "I" (.int (0 : Int32))
theorem rm36_89 (W : Wd a0 Z) (I0 : IO Z n0 h0) {ra1 ra2 ra3 ra4 ra5 ra6 ra7 ra8 : Addr} {ca9 : ClassId} (P0 : Fld Z h0 ra1 ss0 ss15 ss16 (.ref ra2)) (P1 : Fld Z h0 ra1 ss0 ss9 "I" (.int (-1 : Int32))) (P2 : Fld Z h0 ra2 ss8 ss22 ss18 (.ref ra3)) (P3 : Fld Z h0 ra1 ss0 ss14 "I" (.int (1 : Int32))) (P4 : Exa Z h0 ra3 ss10) (P5 : Fld Z h0 ra3 ss10 ss19 ss20 (.ref ra4)) (P6 : Exa Z h0 ra4 ss2) (P7 : Fld Z h0 ra4 ss2 ss3 "I" (.int (3 : Int32))) (P8 : Fld Z h0 ra4 ss2 ss12 ss7 (.ref ra5)) (P9 : Arv Z h0 ra5 ca9 (.object ss4) (10 : Int32) [(.ref ra6), (.ref ra7), (.ref ra8), .null, .null, .null, .null, .null, .null, .null] .null) (P10 : Exa Z h0 ra7 ss1) (P11 : Fld Z h0 ra1 ss0 ss11 "I" (.int (-1 : Int32))) (P12 : Fld Z h0 ra7 ss1 ss13 "I" (.int (0 : Int32))) (P13 : n0 ≤ ra7) (P14 : ra1 ≠ ra7) (P15 : ra2 ≠ ra7) (P16 : ra3 ≠ ra7) (P17 : ra4 ≠ ra7) (P18 : ra5 ≠ ra7) (P19 : Fld Z h0 ra7 ss1 ss3 "I" (.int (1 : Int32))) : OwnM l yy25 (.code yy25 k36_ 2 none) ⟨4, 0, 0, 53⟩ #[(.ref ra1)] Z h0 (Q_rm36_89 Z ra1 ra2 ra3 ra4 ra5 ra6 ra7 ra8 ca9 h0 n0) := by
  refine own_open [ra7] [(ra7, some (sl9 Z)), (ra7, some (sl12 Z))] #[.val (.ref ra1), .unset] (plainFor_of_name pn_5) I0 ?_
  intro p e s m below meth c T b S0
  refine gAl b S0 d36_0 rfl rfl 1 rfl ?_
  refine gGfR b S0 d36_1 (W 188 rfl) Via.refl P0 4 rfl fun T1 S1 => ?_
  refine gAs b S1 d36_4 rfl #[.val (.ref ra1), .val (.ref ra2)] rfl 5 rfl ?_
  refine gAl b S1 d36_5 rfl rfl 6 rfl ?_
  refine gGfR b S1 d36_6 (W 191 rfl) Via.refl P1 9 rfl fun T2 S2 => ?_
  refine gIc b S2 d36_9 (-1) rfl 10 rfl ?_
  refine gIcN b S2 d36_10 rfl 13 rfl ?_
  refine gAl b S2 d36_13 rfl rfl 14 rfl ?_
  refine gGf (host := "") b S2 d36_14 (.inl (W 52 rfl)) Via.refl P2 17 rfl fun T3 S3 => ?_
  refine gAl b S3 d36_17 rfl rfl 18 rfl ?_
  refine gGfR b S3 d36_18 (W 190 rfl) Via.refl P3 21 rfl fun T4 S4 => ?_
  refine cV b S4 d36_21 (W 306 rfl) (W 270 rfl) (W 272 rfl) (W 271 rfl) (W 16 rfl) (W 273 rfl) (rm30_63 W S4.i P5 P6 P7 P8 P9) P4 (by decide) (lenOf pd_19 rfl) rfl [] rfl 0 (own_le rfl) rfl 24 rfl fun T5 L5 v5 X5 q5 => ?_
  obtain ⟨rfl, N5q, e5⟩ := q5
  have S5 := S4.same X5 N5q e5
  refine gRv ?_
  refine gCc b S5 d36_24 (W 67 rfl) (Ins.self P10) 27 rfl fun T6 S6 => ?_
  refine gAl b S6 d36_27 rfl rfl 28 rfl ?_
  refine gGfR b S6 d36_28 (W 193 rfl) Via.refl P11 31 rfl fun T7 S7 => ?_
  refine gPfR b S7 .int d36_31 (W 192 rfl) Via.refl P12 P10 (W 75 rfl) (W 68 rfl) pf2 rfl rfl P13 (.inl ⟨mI 0 rfl, mI 0 rfl⟩) 34 rfl fun T8 h8 W8 F8 S8 => ?_
  refine gGoto b S8 d36_34 58 (by decide) rfl ?_
  refine gAl b S8 d36_58 rfl rfl 59 rfl ?_
  refine gGfR b S8 d36_59 (W 193 rfl) Via.refl (P11.other W8 (Or.inl P14)) 62 rfl fun T9 S9 => ?_
  refine gIc b S9 d36_62 (-1) rfl 63 rfl ?_
  refine gIcY b S9 d36_63 rfl 87 (by decide) rfl ?_
  refine gAl b S9 d36_87 rfl rfl 88 rfl ?_
  refine gGf (host := "") b S9 d36_88 (.inl (W 52 rfl)) Via.refl (P2.other W8 (Or.inl P15)) 91 rfl fun T10 S10 => ?_
  refine gAl b S10 d36_91 rfl rfl 92 rfl ?_
  refine gGfR b S10 d36_92 (W 190 rfl) Via.refl (P3.other W8 (Or.inl P14)) 95 rfl fun T11 S11 => ?_
  refine cV b S11 d36_95 (W 306 rfl) (W 270 rfl) (W 272 rfl) (W 271 rfl) (W 16 rfl) (W 273 rfl) (rm30_63 W S11.i (P5.other W8 (Or.inl P16)) (P6.wr W8) (P7.other W8 (Or.inl P17)) (P8.other W8 (Or.inl P17)) (P9.other W8 P18)) (P4.wr W8) (by decide) (lenOf pd_19 rfl) rfl [] rfl 0 (own_le rfl) rfl 98 rfl fun T12 L12 v12 X12 q12 => ?_
  obtain ⟨rfl, N12q, e12⟩ := q12
  have S12 := S11.same X12 N12q e12
  refine gRv ?_
  refine gCc b S12 d36_98 (W 67 rfl) (Ins.self (P10.wr W8)) 101 rfl fun T13 S13 => ?_
  refine gDup b S13 d36_101 rfl 102 rfl ?_
  refine gGfR b S13 d36_102 (W 194 rfl) Via.refl (P19.other W8 (.inr (sn51 W))) 105 rfl fun T14 S14 => ?_
  refine gIc b S14 d36_105 1 rfl 106 rfl ?_
  refine gSub b S14 d36_106 0 rfl 107 rfl ?_
  refine gPfR b S14 .int d36_107 (W 194 rfl) Via.refl (P19.other W8 (.inr (sn51 W))) (P10.wr W8) (W 195 rfl) (W 68 rfl) pf2 rfl rfl P13 (.inl ⟨mI 0 rfl, mI 1 rfl⟩) 110 rfl fun T15 h15 W15 F15 S15 => ?_
  have f16 := (F8.other W15 (.inr (sn100 W)))
  exact gRetV b S15 d36_110 (own_le rfl) (own_le rfl) ⟨rfl, S15.f, S15.k, S15.kf, f16, F15⟩
def Q_rm20_90 (Z : State) (ra1 ra2 ra3 : Addr) (h0 : Heap) (n0 : Nat) (v : Option Value) (h : Heap) (L : List Loc) : Prop := v = none ∧ Fr n0 L ∧ Keep h0 h [ra1, ra2] ∧ KeepF h0 h [(ra1, some (sl2 Z)), (ra1, some (sl6 Z)), (ra1, some (sl1 Z)), (ra2, some (sl9 Z)), (ra2, some (sl12 Z))] ∧ Fld Z h ra1 ss0 ss14 "I" (.int (1 : Int32)) ∧ Fld Z h ra1 ss0 ss9 "I" (.int (-1 : Int32)) ∧ Fld Z h ra1 ss0 ss11 "I" (.int (-1 : Int32)) ∧ Fld Z h ra2 ss1 ss13 "I" (.int (0 : Int32)) ∧ Fld Z h ra2 ss1 ss3 "I" (.int (1 : Int32))
theorem rm20_90 (W : Wd a0 Z) (I0 : IO Z n0 h0) {ra1 ra2 ra3 : Addr} (P0 : Fld Z h0 ra2 ss1 ss15 ss16 (.ref ra3)) (P1 : Fld Z h0 ra1 ss0 ss17 "I" (.int (0 : Int32))) (P2 : Fld Z h0 ra2 ss1 ss17 "I" (.int (1 : Int32))) (P3 : Exa Z h0 ra1 ss0) (P4 : Fld Z h0 ra1 ss0 ss14 "I" (.int (1 : Int32))) (P5 : n0 ≤ ra1) (P6 : Fld Z h0 ra1 ss0 ss9 "I" (.int (-1 : Int32))) (P7 : Fld Z h0 ra2 ss1 ss13 "I" (.int (-1 : Int32))) (P8 : Exa Z h0 ra2 ss1) (P9 : ra2 ≠ ra1) (P10 : Fld Z h0 ra1 ss0 ss11 "I" (.int (-1 : Int32))) (P11 : n0 ≤ ra2) (P12 : Fld Z h0 ra2 ss1 ss3 "I" (.int (0 : Int32))) : OwnM l yy21 (.code yy21 k20_ 3 none) ⟨0, 0, 0, 0⟩ #[(.ref ra1), (.ref ra2)] Z h0 (Q_rm20_90 Z ra1 ra2 ra3 h0 n0) := by
  refine own_open [ra1, ra2] [(ra1, some (sl2 Z)), (ra1, some (sl6 Z)), (ra1, some (sl1 Z)), (ra2, some (sl9 Z)), (ra2, some (sl12 Z))] #[.val (.ref ra1), .val (.ref ra2), .unset] (plainFor_of_name pn_5) I0 ?_
  intro p e s m below meth c T b S0
  refine gAl b S0 d20_0 rfl rfl 1 rfl ?_
  refine gGfR b S0 d20_1 (W 186 rfl) Via.refl P0 4 rfl fun T1 S1 => ?_
  refine gAs b S1 d20_4 rfl #[.val (.ref ra1), .val (.ref ra2), .val (.ref ra3)] rfl 5 rfl ?_
  refine gAl b S1 d20_5 rfl rfl 6 rfl ?_
  refine gGfR b S1 d20_6 (W 187 rfl) Via.refl P1 9 rfl fun T2 S2 => ?_
  refine gIc b S2 d20_9 (-1) rfl 10 rfl ?_
  refine gIcY b S2 d20_10 rfl 30 (by decide) rfl ?_
  refine gAl b S2 d20_30 rfl rfl 31 rfl ?_
  refine gAl b S2 d20_31 rfl rfl 32 rfl ?_
  refine gGfR b S2 d20_32 (W 134 rfl) Via.refl P2 35 rfl fun T3 S3 => ?_
  refine gPfR b S3 .int d20_35 (W 190 rfl) Via.refl P4 P3 (W 156 rfl) (W 139 rfl) pf2 rfl rfl P5 (.inl ⟨mI 0 rfl, mI 0 rfl⟩) 38 rfl fun T4 h4 W4 F4 S4 => ?_
  refine gAl b S4 d20_38 rfl rfl 39 rfl ?_
  refine gIc b S4 d20_39 (-1) rfl 40 rfl ?_
  refine gPfR b S4 .int d20_40 (W 191 rfl) Via.refl (P6.other W4 (.inr (sn74 W))) (P3.wr W4) (W 158 rfl) (W 139 rfl) pf2 rfl rfl P5 (.inl ⟨mI 0 rfl, mI 1 rfl⟩) 43 rfl fun T5 h5 W5 F5 S5 => ?_
  refine gAl b S5 d20_43 rfl rfl 44 rfl ?_
  refine gAl b S5 d20_44 rfl rfl 45 rfl ?_
  have f6 := ((P7.other W4 (Or.inl P9)).other W5 (Or.inl P9))
  refine gGfR b S5 d20_45 (W 192 rfl) Via.refl f6 48 rfl fun T7 S7 => ?_
  have f8 := ((P10.other W4 (.inr (sn76 W))).other W5 (.inr (sn77 W)))
  refine gPfR b S7 .int d20_48 (W 193 rfl) Via.refl f8 ((P3.wr W4).wr W5) (W 160 rfl) (W 139 rfl) pf2 rfl rfl P5 (.inl ⟨mI 0 rfl, mI 2 rfl⟩) 51 rfl fun T9 h9 W9 F9 S9 => ?_
  refine gAl b S9 d20_51 rfl rfl 52 rfl ?_
  refine gGfR b S9 d20_52 (W 192 rfl) Via.refl (f6.other W9 (Or.inl P9)) 55 rfl fun T10 S10 => ?_
  refine gIc b S10 d20_55 (-1) rfl 56 rfl ?_
  refine gIcY b S10 d20_56 rfl 80 (by decide) rfl ?_
  refine gAl b S10 d20_80 rfl rfl 81 rfl ?_
  refine gAl b S10 d20_81 rfl rfl 82 rfl ?_
  have f11 := (((P1.other W4 (.inr (sn82 W))).other W5 (.inr (sn83 W))).other W9 (.inr (sn84 W)))
  refine gGfR b S10 d20_82 (W 187 rfl) Via.refl f11 85 rfl fun T12 S12 => ?_
  refine gPfR b S12 .int d20_85 (W 192 rfl) Via.refl (f6.other W9 (Or.inl P9)) (((P8.wr W4).wr W5).wr W9) (W 75 rfl) (W 68 rfl) pf2 rfl rfl P11 (.inl ⟨mI 1 rfl, mI 3 rfl⟩) 88 rfl fun T13 h13 W13 F13 S13 => ?_
  refine gAl b S13 d20_88 rfl rfl 89 rfl ?_
  refine gDup b S13 d20_89 rfl 90 rfl ?_
  have f14 := ((((P12.other W4 (Or.inl P9)).other W5 (Or.inl P9)).other W9 (Or.inl P9)).other W13 (.inr (sn51 W)))
  refine gGfR b S13 d20_90 (W 194 rfl) Via.refl f14 93 rfl fun T15 S15 => ?_
  refine gIc b S15 d20_93 1 rfl 94 rfl ?_
  refine gAdd b S15 d20_94 1 rfl 95 rfl ?_
  have f16 := ((((P8.wr W4).wr W5).wr W9).wr W13)
  refine gPfR b S15 .int d20_95 (W 194 rfl) Via.refl f14 f16 (W 195 rfl) (W 68 rfl) pf2 rfl rfl P11 (.inl ⟨mI 1 rfl, mI 4 rfl⟩) 98 rfl fun T17 h17 W17 F17 S17 => ?_
  have f18 := ((((F4.other W5 (.inr (sn86 W))).other W9 (.inr (sn87 W))).other W13 (Or.inl (nS P9))).other W17 (Or.inl (nS P9)))
  have f19 := (((F5.other W9 (.inr (sn89 W))).other W13 (Or.inl (nS P9))).other W17 (Or.inl (nS P9)))
  have f20 := ((F9.other W13 (Or.inl (nS P9))).other W17 (Or.inl (nS P9)))
  have f21 := (F13.other W17 (.inr (sn100 W)))
  exact gRetV b S17 d20_98 (own_le rfl) (own_le rfl) ⟨rfl, S17.f, S17.k, S17.kf, f18, f19, f20, f21, F17⟩
def Q_rm35_88 (Z : State) (ra1 ra2 ra3 ra4 ra5 ra6 ra7 ra8 : Addr) (ca9 : ClassId) (h0 : Heap) (n0 : Nat) (v : Option Value) (h : Heap) (L : List Loc) : Prop := v = none ∧ Fr n0 L ∧ Keep h0 h [ra2, ra1] ∧ KeepF h0 h [(ra2, some (sl12 Z)), (ra2, some (sl9 Z)), (ra1, some (sl1 Z)), (ra1, some (sl6 Z)), (ra1, some (sl2 Z))] ∧ Fld Z h ra2 ss1 ss3 "I" (.int (1 : Int32)) ∧ Fld Z h ra2 ss1 ss13 "I" (.int (0 : Int32)) ∧ Fld Z h ra1 ss0 ss11 "I" (.int (-1 : Int32)) ∧ Fld Z h ra1 ss0 ss9 "I" (.int (-1 : Int32)) ∧ Fld Z h ra1 ss0 ss14 "I" (.int (1 : Int32))
theorem rm35_88 (W : Wd a0 Z) (I0 : IO Z n0 h0) {ra1 ra2 ra3 ra4 ra5 ra6 ra7 ra8 : Addr} {ca9 : ClassId} (P0 : Fld Z h0 ra1 ss0 ss15 ss16 (.ref ra3)) (P1 : Fld Z h0 ra1 ss0 ss9 "I" (.int (-1 : Int32))) (P2 : Fld Z h0 ra3 ss8 ss22 ss18 (.ref ra4)) (P3 : Fld Z h0 ra1 ss0 ss14 "I" (.int (1 : Int32))) (P4 : Exa Z h0 ra4 ss10) (P5 : Fld Z h0 ra4 ss10 ss19 ss20 (.ref ra5)) (P6 : Exa Z h0 ra5 ss2) (P7 : Fld Z h0 ra5 ss2 ss3 "I" (.int (3 : Int32))) (P8 : Fld Z h0 ra5 ss2 ss12 ss7 (.ref ra6)) (P9 : Arv Z h0 ra6 ca9 (.object ss4) (10 : Int32) [(.ref ra7), (.ref ra2), (.ref ra8), .null, .null, .null, .null, .null, .null, .null] .null) (P10 : Exa Z h0 ra2 ss1) (P11 : Fld Z h0 ra1 ss0 ss11 "I" (.int (-1 : Int32))) (P12 : Fld Z h0 ra2 ss1 ss13 "I" (.int (0 : Int32))) (P13 : n0 ≤ ra2) (P14 : Exa Z h0 ra1 ss0) (P15 : ra1 ≠ ra2) (P16 : ra3 ≠ ra2) (P17 : ra4 ≠ ra2) (P18 : ra5 ≠ ra2) (P19 : ra6 ≠ ra2) (P20 : Fld Z h0 ra2 ss1 ss3 "I" (.int (1 : Int32))) (P21 : Fld Z h0 ra2 ss1 ss15 ss16 (.ref ra3)) (P22 : Fld Z h0 ra1 ss0 ss17 "I" (.int (0 : Int32))) (P23 : Fld Z h0 ra2 ss1 ss17 "I" (.int (1 : Int32))) (P24 : n0 ≤ ra1) : OwnM l yy24 (.code yy24 k35_ 2 none) ⟨5, 0, 0, 66⟩ #[(.ref ra1), (.ref ra2)] Z h0 (Q_rm35_88 Z ra1 ra2 ra3 ra4 ra5 ra6 ra7 ra8 ca9 h0 n0) := by
  refine own_open [ra2, ra1] [(ra2, some (sl12 Z)), (ra2, some (sl9 Z)), (ra1, some (sl1 Z)), (ra1, some (sl6 Z)), (ra1, some (sl2 Z))] #[.val (.ref ra1), .val (.ref ra2)] (plainFor_of_name pn_5) I0 ?_
  intro p e s m below meth c T b S0
  refine gAl b S0 d35_0 rfl rfl 1 rfl ?_
  refine cS b S0 d35_1 (W 303 rfl) (W 304 rfl) (W 9 rfl) (W 305 rfl) (rm36_89 W S0.i P0 P1 P2 P3 P4 P5 P6 P7 P8 P9 P10 P11 P12 P13 P15 P16 P17 P18 P19 P20) (by decide) (lenOf pd_21 rfl) rfl [] rfl 0 (own_le rfl) rfl 4 rfl fun T1 L1 v1 X1 q1 => ?_
  obtain ⟨rfl, N1q, K1q, KF1q, R1_0, R1_1⟩ := q1
  have S1 := S0.call X1 N1q K1q KF1q (allS (.inl (mI 0 rfl)) all0) (fallS (.inl (mI 1 rfl)) (fallS (.inl (mI 0 rfl)) fall0)) (allS P13 all0)
  refine gRn ?_
  refine gAl b S1 d35_4 rfl rfl 5 rfl ?_
  refine gAl b S1 d35_5 rfl rfl 6 rfl ?_
  have f2 := (P21.kf K1q KF1q (nofB (sn23 W) (nofB (sn112 W) nof0)))
  have f3 := (P23.kf K1q KF1q (nofB (sn46 W) (nofB (sn113 W) nof0)))
  refine cS b S1 d35_6 (W 307 rfl) (W 184 rfl) (W 9 rfl) (W 185 rfl) (rm20_90 W S1.i f2 (P22.keep K1q (ninS P15 nin0)) f3 (P14.keep K1q) (P3.keep K1q (ninS P15 nin0)) P24 (P1.keep K1q (ninS P15 nin0)) R1_0 (P10.keep K1q) (nS P15) (P11.keep K1q (ninS P15 nin0)) P13 R1_1) (by decide) (lenOf pd_12 rfl) rfl [] rfl 0 (own_le rfl) rfl 9 rfl fun T4 L4 v4 X4 q4 => ?_
  obtain ⟨rfl, N4q, K4q, KF4q, R4_0, R4_1, R4_2, R4_3, R4_4⟩ := q4
  have S4 := S1.call X4 N4q K4q KF4q (allS (.inl (mI 1 rfl)) (allS (.inl (mI 0 rfl)) all0)) (fallS (.inl (mI 4 rfl)) (fallS (.inl (mI 3 rfl)) (fallS (.inl (mI 2 rfl)) (fallS (.inl (mI 1 rfl)) (fallS (.inl (mI 0 rfl)) fall0))))) (allS P24 (allS P13 all0))
  refine gRn ?_
  exact gRetV b S4 d35_9 (own_le rfl) (own_le rfl) ⟨rfl, S4.f, S4.k, S4.kf, R4_4, R4_3, R4_2, R4_1, R4_0⟩
def Q_rm28_86 (Z : State) (ra1 ra2 ra3 ra4 ra5 ra6 ra7 ra8 ra9 ra11 : Addr) (ca10 ca12 : ClassId) (h0 : Heap) (n0 : Nat) (v : Option Value) (h : Heap) (L : List Loc) : Prop := ∃ nw1 : Addr, ∃ kw1 : ClassId, v = none ∧ Fr n0 L ∧ Keep h0 h [ra2, ra8, ra1] ∧ KeepF h0 h [(ra2, some (sl16 Z)), (ra2, some (sl17 Z)), (ra2, some (sl23 Z)), (ra8, some (sl11 Z)), (ra1, some (sl2 Z)), (ra1, some (sl6 Z)), (ra1, some (sl1 Z)), (ra8, some (sl9 Z)), (ra8, some (sl12 Z))] ∧ h0.size ≤ nw1 ∧ Fld Z h ra2 ss2 ss12 ss7 (.ref nw1) ∧ Fld Z h ra2 ss2 ss3 "I" (.int (1 : Int32)) ∧ Fld Z h ra2 ss5 ss6 "I" (.int (1 : Int32)) ∧ Fld Z h ra8 ss1 ss21 "I" (.int (1 : Int32)) ∧ Fld Z h ra1 ss0 ss14 "I" (.int (1 : Int32)) ∧ Fld Z h ra1 ss0 ss9 "I" (.int (-1 : Int32)) ∧ Fld Z h ra1 ss0 ss11 "I" (.int (-1 : Int32)) ∧ Fld Z h ra8 ss1 ss13 "I" (.int (0 : Int32)) ∧ Fld Z h ra8 ss1 ss3 "I" (.int (1 : Int32)) ∧ Arv Z h nw1 kw1 (.object ss4) (10 : Int32) [(.ref ra8), .null, .null, .null, .null, .null, .null, .null, .null, .null] .null ∧ Ovr Z kw1 ss4
theorem rm28_86 (W : Wd a0 Z) (I0 : IO Z n0 h0) {ra1 ra2 ra3 ra4 ra5 ra6 ra7 ra8 ra9 ra11 : Addr} {ca10 ca12 : ClassId} (P0 : Exa Z h0 ra1 ss0) (P1 : Fld Z h0 ra1 ss0 ss15 ss16 (.ref ra3)) (P2 : Fld Z h0 ra3 ss8 ss22 ss18 (.ref ra4)) (P3 : Fld Z h0 ra1 ss0 ss14 "I" (.int (1 : Int32))) (P4 : Exa Z h0 ra4 ss10) (P5 : Fld Z h0 ra4 ss10 ss19 ss20 (.ref ra5)) (P6 : Exa Z h0 ra5 ss2) (P7 : Fld Z h0 ra5 ss2 ss3 "I" (.int (3 : Int32))) (P8 : Fld Z h0 ra5 ss2 ss12 ss7 (.ref ra6)) (P9 : Arv Z h0 ra6 ca10 (.object ss4) (10 : Int32) [(.ref ra7), (.ref ra8), (.ref ra9), .null, .null, .null, .null, .null, .null, .null] .null) (P10 : Exa Z h0 ra8 ss1) (P11 : Fld Z h0 ra8 ss1 ss21 "I" (.int (0 : Int32))) (P12 : Exa Z h0 ra2 ss2) (P13 : Fld Z h0 ra2 ss5 ss6 "I" (.int (0 : Int32))) (P14 : n0 ≤ ra2) (P15 : Fld Z h0 ra2 ss2 ss12 ss7 (.ref ra11)) (P16 : Fld Z h0 ra2 ss2 ss3 "I" (.int (0 : Int32))) (P17 : Arv Z Z.heap ra11 ca12 (.object ss4) (0 : Int32) [] .null) (P18 : Sta Z Z.heap ss2 ss30 ss7 (.ref ra11)) (P19 : ra8 ≠ ra2) (P20 : n0 ≤ ra8) (P21 : Fld Z h0 ra1 ss0 ss9 "I" (.int (-1 : Int32))) (P22 : Fld Z h0 ra1 ss0 ss11 "I" (.int (-1 : Int32))) (P23 : Fld Z h0 ra8 ss1 ss13 "I" (.int (0 : Int32))) (P24 : ra1 ≠ ra8) (P25 : ra3 ≠ ra8) (P26 : ra4 ≠ ra8) (P27 : ra5 ≠ ra8) (P28 : ra6 ≠ ra8) (P29 : Fld Z h0 ra8 ss1 ss3 "I" (.int (1 : Int32))) (P30 : Fld Z h0 ra8 ss1 ss15 ss16 (.ref ra3)) (P31 : Fld Z h0 ra1 ss0 ss17 "I" (.int (0 : Int32))) (P32 : Fld Z h0 ra8 ss1 ss17 "I" (.int (1 : Int32))) (P33 : n0 ≤ ra1) (P34 : ra1 ≠ ra2) (P35 : ra3 ≠ ra2) (P36 : ra4 ≠ ra2) (P37 : ra5 ≠ ra2) (P38 : ra6 ≠ ra2) : OwnM l yy22 (.code yy22 k28_ 3 none) ⟨6, 1, 10, 79⟩ #[(.ref ra1), (.ref ra2)] Z h0 (Q_rm28_86 Z ra1 ra2 ra3 ra4 ra5 ra6 ra7 ra8 ra9 ra11 ca10 ca12 h0 n0) := by
  refine own_open [ra2, ra8, ra1] [(ra2, some (sl16 Z)), (ra2, some (sl17 Z)), (ra2, some (sl23 Z)), (ra8, some (sl11 Z)), (ra1, some (sl2 Z)), (ra1, some (sl6 Z)), (ra1, some (sl1 Z)), (ra8, some (sl9 Z)), (ra8, some (sl12 Z))] #[.val (.ref ra1), .val (.ref ra2), .unset] (plainFor_of_name pn_5) I0 ?_
  intro p e s m below meth c T b S0
  refine gAl b S0 d28_0 rfl rfl 1 rfl ?_
  refine cV b S0 d28_1 (W 262 rfl) (W 263 rfl) (W 265 rfl) (W 264 rfl) (W 140 rfl) (W 266 rfl) (rm29_87 W S0.i P1 P2 P3 P4 P5 P6 P7 P8 P9 P10) P0 (by decide) (lenOf pd_20 rfl) rfl [] rfl 0 (own_le rfl) rfl 4 rfl fun T1 L1 v1 X1 q1 => ?_
  obtain ⟨rfl, N1q, e1⟩ := q1
  have S1 := S0.same X1 N1q e1
  refine gRv ?_
  refine gAs b S1 d28_4 rfl #[.val (.ref ra1), .val (.ref ra2), .val (.ref ra8)] rfl 5 rfl ?_
  refine gAl b S1 d28_5 rfl rfl 6 rfl ?_
  refine gGfR b S1 d28_6 (W 297 rfl) Via.refl P11 9 rfl fun T2 S2 => ?_
  refine gIfN b S2 d28_9 rfl 12 rfl ?_
  refine gAl b S2 d28_12 rfl rfl 13 rfl ?_
  refine gAl b S2 d28_13 rfl rfl 14 rfl ?_
  refine cI (xi := yy58) b S2 d28_14 (W 299 rfl) (W 92 rfl) (fun hZ => mvT hZ (W 93 rfl)) (W 94 rfl) (W 95 rfl) (W 96 rfl) (W 97 rfl) (W 98 rfl) (W 23 rfl) (W 99 rfl) (rm11_10 W S2.i P13 P12 P14 P15 P16 P17 P18 P10) P12 (by decide) (lenOf pd_6 rfl) rfl [] rfl 0 (own_le rfl) rfl 19 rfl fun T3 L3 v3 X3 q3 => ?_
  obtain ⟨nw1_3, kw1_3, rfl, N3q, K3q, KF3q, z3_nw1, R3_0, R3_1, R3_2, R3_3, R3_4⟩ := q3
  have S3 := S2.call X3 N3q K3q KF3q (allS (.inl (mI 0 rfl)) all0) (fallS (.inl (mI 2 rfl)) (fallS (.inl (mI 1 rfl)) (fallS (.inl (mI 0 rfl)) fall0))) (allS P14 all0)
  refine gRv ?_
  refine gPop b S3 d28_19 rfl 20 rfl ?_
  refine gAl b S3 d28_20 rfl rfl 21 rfl ?_
  refine gDup b S3 d28_21 rfl 22 rfl ?_
  refine gGfR b S3 d28_22 (W 297 rfl) Via.refl (P11.keep K3q (ninS P19 nin0)) 25 rfl fun T4 S4 => ?_
  refine gIc b S4 d28_25 1 rfl 26 rfl ?_
  refine gAdd b S4 d28_26 1 rfl 27 rfl ?_
  refine gPfR b S4 .int d28_27 (W 297 rfl) Via.refl (P11.keep K3q (ninS P19 nin0)) (P10.keep K3q) (W 298 rfl) (W 68 rfl) pf2 rfl rfl P20 (.inl ⟨mI 1 rfl, mI 3 rfl⟩) 30 rfl fun T5 h5 W5 F5 S5 => ?_
  refine gAl b S5 d28_30 rfl rfl 31 rfl ?_
  refine gAl b S5 d28_31 rfl rfl 32 rfl ?_
  have f6 := ((P1.keep K3q (ninS P34 nin0)).other W5 (Or.inl P24))
  have f7 := ((P21.keep K3q (ninS P34 nin0)).other W5 (Or.inl P24))
  have f8 := ((P2.keep K3q (ninS P35 nin0)).other W5 (Or.inl P25))
  have f9 := ((P3.keep K3q (ninS P34 nin0)).other W5 (Or.inl P24))
  have f10 := ((P5.keep K3q (ninS P36 nin0)).other W5 (Or.inl P26))
  have f11 := ((P7.keep K3q (ninS P37 nin0)).other W5 (Or.inl P27))
  have f12 := ((P8.keep K3q (ninS P37 nin0)).other W5 (Or.inl P27))
  have f13 := ((P9.keep K3q (ninS P38 nin0)).other W5 P28)
  have f14 := ((P22.keep K3q (ninS P34 nin0)).other W5 (Or.inl P24))
  have f15 := ((P23.keep K3q (ninS P19 nin0)).other W5 (.inr (sn114 W)))
  have f16 := ((P29.keep K3q (ninS P19 nin0)).other W5 (.inr (sn115 W)))
  have f17 := ((P30.keep K3q (ninS P19 nin0)).other W5 (.inr (sn116 W)))
  have f18 := ((P31.keep K3q (ninS P34 nin0)).other W5 (Or.inl P24))
  have f19 := ((P32.keep K3q (ninS P19 nin0)).other W5 (.inr (sn117 W)))
  refine cS b S5 d28_32 (W 300 rfl) (W 301 rfl) (W 9 rfl) (W 302 rfl) (rm35_88 W S5.i f6 f7 f8 f9 ((P4.keep K3q).wr W5) f10 ((P6.keep K3q).wr W5) f11 f12 f13 ((P10.keep K3q).wr W5) f14 f15 P20 ((P0.keep K3q).wr W5) P24 P25 P26 P27 P28 f16 f17 f18 f19 P33) (by decide) (lenOf pd_12 rfl) rfl [] rfl 0 (own_le rfl) rfl 35 rfl fun T20 L20 v20 X20 q20 => ?_
  obtain ⟨rfl, N20q, K20q, KF20q, R20_0, R20_1, R20_2, R20_3, R20_4⟩ := q20
  have S20 := S5.call X20 N20q K20q KF20q (allS (.inl (mI 1 rfl)) (allS (.inl (mI 2 rfl)) all0)) (fallS (.inl (mI 8 rfl)) (fallS (.inl (mI 7 rfl)) (fallS (.inl (mI 6 rfl)) (fallS (.inl (mI 5 rfl)) (fallS (.inl (mI 4 rfl)) fall0))))) (allS P20 (allS P33 all0))
  refine gRn ?_
  have f21 := ((R3_2.other W5 (Or.inl (nS P19))).keep K20q (ninS (nS P19) (ninS (nS P34) nin0)))
  have f22 := ((R3_1.other W5 (Or.inl (nS P19))).keep K20q (ninS (nS P19) (ninS (nS P34) nin0)))
  have f23 := ((R3_0.other W5 (Or.inl (nS P19))).keep K20q (ninS (nS P19) (ninS (nS P34) nin0)))
  have f24 := (F5.kf K20q KF20q (nofB (sn118 W) (nofB (sn57 W) (nofA (nS P24) (nofA (nS P24) (nofA (nS P24) nof0))))))
  have x25 := (nS (nL (tL P10.lt z3_nw1)))
  have x26 := (nS (nL (tL P0.lt z3_nw1)))
  have f27 := ((R3_3.other W5 x25).keep K20q (ninS x25 (ninS x26 nin0)))
  exact gRetV b S20 d28_35 (own_le rfl) (own_le rfl) ⟨nw1_3, kw1_3, rfl, S20.f, S20.k, S20.kf, (S2.sz z3_nw1), f21, f22, f23, f24, R20_4, R20_3, R20_2, R20_1, R20_0, f27, R3_4⟩
def Q_rm22_85 (Z : State) (ra1 ra2 ra3 ra4 ra6 ra7 ra8 ra9 ra10 ra11 ra12 : Addr) (ca5 ca13 ca14 : ClassId) (h0 : Heap) (n0 : Nat) (v : Option Value) (h : Heap) (L : List Loc) : Prop := ∃ nw1 : Addr, ∃ nw2 : Addr, ∃ kw1 : ClassId, v = some (.ref nw1) ∧ Fr n0 L ∧ Keep h0 h [ra4, ra11] ∧ KeepF h0 h [(ra11, some (sl12 Z)), (ra11, some (sl9 Z)), (ra4, some (sl1 Z)), (ra4, some (sl6 Z)), (ra4, some (sl2 Z)), (ra11, some (sl11 Z))] ∧ h0.size ≤ nw1 ∧ h0.size ≤ nw2 ∧ Fld Z h ra11 ss1 ss3 "I" (.int (1 : Int32)) ∧ Fld Z h ra11 ss1 ss13 "I" (.int (0 : Int32)) ∧ Fld Z h ra4 ss0 ss11 "I" (.int (-1 : Int32)) ∧ Fld Z h ra4 ss0 ss9 "I" (.int (-1 : Int32)) ∧ Fld Z h ra4 ss0 ss14 "I" (.int (1 : Int32)) ∧ Fld Z h ra11 ss1 ss21 "I" (.int (1 : Int32)) ∧ Exa Z h nw1 ss2 ∧ Fld Z h nw1 ss2 ss12 ss7 (.ref nw2) ∧ Fld Z h nw1 ss2 ss3 "I" (.int (1 : Int32)) ∧ Fld Z h nw1 ss5 ss6 "I" (.int (1 : Int32)) ∧ Arv Z h nw2 kw1 (.object ss4) (10 : Int32) [(.ref ra11), .null, .null, .null, .null, .null, .null, .null, .null, .null] .null ∧ Ovr Z kw1 ss4 ∧ nw2 ≠ nw1
theorem rm22_85 (W : Wd a0 Z) (I0 : IO Z n0 h0) {ra1 ra2 ra3 ra4 ra6 ra7 ra8 ra9 ra10 ra11 ra12 : Addr} {ca5 ca13 ca14 : ClassId} (P0 : Sta Z Z.heap ss2 ss30 ss7 (.ref ra2)) (P1 : Exa Z h0 ra1 ss2) (P2 : Fld Z h0 ra1 ss5 ss6 "I" (.int (1 : Int32))) (P3 : Fld Z h0 ra1 ss2 ss3 "I" (.int (1 : Int32))) (P4 : Fld Z h0 ra1 ss2 ss12 ss7 (.ref ra3)) (P5 : Arv Z h0 ra3 ca5 (.object ss4) (10 : Int32) [(.ref ra4), .null, .null, .null, .null, .null, .null, .null, .null, .null] .null) (P6 : Exa Z h0 ra4 ss0) (P7 : Fld Z h0 ra4 ss0 ss15 ss16 (.ref ra6)) (P8 : Fld Z h0 ra6 ss8 ss22 ss18 (.ref ra7)) (P9 : Fld Z h0 ra4 ss0 ss14 "I" (.int (1 : Int32))) (P10 : Exa Z h0 ra7 ss10) (P11 : Fld Z h0 ra7 ss10 ss19 ss20 (.ref ra8)) (P12 : Exa Z h0 ra8 ss2) (P13 : Fld Z h0 ra8 ss2 ss3 "I" (.int (3 : Int32))) (P14 : Fld Z h0 ra8 ss2 ss12 ss7 (.ref ra9)) (P15 : Arv Z h0 ra9 ca13 (.object ss4) (10 : Int32) [(.ref ra10), (.ref ra11), (.ref ra12), .null, .null, .null, .null, .null, .null, .null] .null) (P16 : Exa Z h0 ra11 ss1) (P17 : Fld Z h0 ra11 ss1 ss21 "I" (.int (0 : Int32))) (P18 : Arv Z Z.heap ra2 ca14 (.object ss4) (0 : Int32) [] .null) (P19 : n0 ≤ ra11) (P20 : Fld Z h0 ra4 ss0 ss9 "I" (.int (-1 : Int32))) (P21 : Fld Z h0 ra4 ss0 ss11 "I" (.int (-1 : Int32))) (P22 : Fld Z h0 ra11 ss1 ss13 "I" (.int (0 : Int32))) (P23 : ra4 ≠ ra11) (P24 : ra6 ≠ ra11) (P25 : ra7 ≠ ra11) (P26 : ra8 ≠ ra11) (P27 : ra9 ≠ ra11) (P28 : Fld Z h0 ra11 ss1 ss3 "I" (.int (1 : Int32))) (P29 : Fld Z h0 ra11 ss1 ss15 ss16 (.ref ra6)) (P30 : Fld Z h0 ra4 ss0 ss17 "I" (.int (0 : Int32))) (P31 : Fld Z h0 ra11 ss1 ss17 "I" (.int (1 : Int32))) (P32 : n0 ≤ ra4) (P33 : ra1 ≠ ra4) (P34 : ra1 ≠ ra11) : OwnM l yy23 (.code yy23 k22_ 4 (some (.object "java/util/List"))) ⟨7, 3, 17, 93⟩ #[(.ref ra1)] Z h0 (Q_rm22_85 Z ra1 ra2 ra3 ra4 ra6 ra7 ra8 ra9 ra10 ra11 ra12 ca5 ca13 ca14 h0 n0) := by
  refine own_open [ra4, ra11] [(ra11, some (sl12 Z)), (ra11, some (sl9 Z)), (ra4, some (sl1 Z)), (ra4, some (sl6 Z)), (ra4, some (sl2 Z)), (ra11, some (sl11 Z))] #[.val (.ref ra1), .unset, .unset, .unset] (plainFor_of_name pn_5) I0 ?_
  intro p e s m below meth c T b S0
  refine gNew b S0 d22_0 (W 206 rfl) (W 22 rfl) (W 23 rfl) (own_le rfl) (own_le rfl) 3 rfl fun T1 h1 b1 g1 E1 A1 D1 S1 => ?_
  refine gDup b S1 d22_3 rfl 4 rfl ?_
  refine cN b S1 d22_4 (W 207 rfl) (W 25 rfl) (W 23 rfl) (W 26 rfl) (rm5_4 W S1.i A1 (own_dI @D1 (.inl (W 41 rfl)) pf2) (S0.ge g1) P0 (own_dN @D1 (.inl (W 44 rfl)) pf3)) rfl (by decide) (lenOf pd_0 rfl) rfl [(.ref b1)] rfl 1 (own_le rfl) rfl 7 rfl fun T2 L2 v2 X2 q2 => ?_
  obtain ⟨rfl, N2q, K2q, KF2q, R2_0, R2_1⟩ := q2
  have S2 := S1.call X2 N2q K2q KF2q (allS (.inr (S0.sz g1)) all0) (fallS (.inr (.inr (S0.sz g1))) (fallS (.inr (.inr (S0.sz g1))) fall0)) (allS (S0.ge g1) all0)
  refine gRn ?_
  refine gAs b S2 d22_7 rfl #[.val (.ref ra1), .val (.ref b1), .unset, .unset] rfl 8 rfl ?_
  refine gAl b S2 d22_8 rfl rfl 9 rfl ?_
  have x3 := (nL (tL P1.lt g1))
  have f4 := ((P2.ext E1).keep K2q (ninS x3 nin0))
  refine cI (xi := yy61) b S2 d22_9 (W 208 rfl) (W 209 rfl) (fun hZ => mvT hZ (W 210 rfl)) (W 211 rfl) (W 212 rfl) (W 213 rfl) (W 214 rfl) (W 98 rfl) (W 23 rfl) (W 215 rfl) (rm23_27 W S2.i f4) ((P1.ext E1).keep K2q) (by decide) (lenOf pd_16 rfl) rfl [] rfl 0 (own_le rfl) rfl 14 rfl fun T5 L5 v5 X5 q5 => ?_
  obtain ⟨nw1_5, rfl, N5q, K5q, KF5q, z5_nw1, R5_0, R5_1, R5_2, R5_3, R5_4⟩ := q5
  have S5 := S2.call X5 N5q K5q KF5q all0 fall0 all0
  refine gRv ?_
  refine gAs b S5 d22_14 rfl #[.val (.ref ra1), .val (.ref b1), .val (.ref nw1_5), .unset] rfl 15 rfl ?_
  refine gAl b S5 d22_15 rfl rfl 16 rfl ?_
  have f6 := (((P3.ext E1).keep K2q (ninS x3 nin0)).keep K5q nin0)
  refine cI (xi := yy56) b S5 d22_16 (W 231 rfl) (W 232 rfl) (fun hZ => mvT hZ (W 233 rfl)) (W 234 rfl) (W 235 rfl) (W 236 rfl) (W 237 rfl) (W 238 rfl) (W 218 rfl) (W 239 rfl) (rm25_29 W S5.i R5_1 R5_2 f6) R5_0 (by decide) (lenOf pd_11 rfl) rfl [] rfl 0 (own_le rfl) rfl 21 rfl fun T7 L7 v7 X7 q7 => ?_
  obtain ⟨rfl, N7q, e7⟩ := q7
  have S7 := S5.same X7 N7q e7
  refine gRv ?_
  refine gIfN b S7 d22_21 rfl 24 rfl ?_
  refine gAl b S7 d22_24 rfl rfl 25 rfl ?_
  have f8 := (((P4.ext E1).keep K2q (ninS x3 nin0)).keep K5q nin0)
  have x9 := (nL (tL P5.lt g1))
  have f10 := (((P5.ext E1).keep K2q (ninS x9 nin0)).keep K5q nin0)
  have x11 := (nL (tL (tL (tL P5.lt E1.1) K2q.1) z5_nw1))
  refine cI (xi := yy57) b S7 d22_25 (W 243 rfl) (W 244 rfl) (fun hZ => mvT hZ (W 245 rfl)) (W 246 rfl) (W 247 rfl) (W 248 rfl) (W 249 rfl) (W 238 rfl) (W 218 rfl) (W 250 rfl) (rm26_30 W S7.i R5_0 R5_2 (f4.keep K5q nin0) R5_4 R5_1 f6 f8 f10 (S2.ge z5_nw1) R5_3 x11) R5_0 (by decide) (lenOf pd_17 rfl) rfl [] rfl 0 (own_le rfl) rfl 30 rfl fun T12 L12 v12 X12 q12 => ?_
  obtain ⟨rfl, N12q, K12q, KF12q, R12_0, R12_1⟩ := q12
  have S12 := S7.call X12 N12q K12q KF12q (allS (.inr (S2.sz z5_nw1)) all0) (fallS (.inr (.inr (S2.sz z5_nw1))) (fallS (.inr (.inr (S2.sz z5_nw1))) fall0)) (allS (S2.ge z5_nw1) all0)
  refine gRv ?_
  have f13 := ((((P6.ext E1).keep K2q).keep K5q).keep K12q)
  refine gCc b S12 d22_30 (W 257 rfl) (Ins.self f13) 33 rfl fun T14 S14 => ?_
  refine gAs b S14 d22_33 rfl #[.val (.ref ra1), .val (.ref b1), .val (.ref nw1_5), .val (.ref ra4)] rfl 34 rfl ?_
  refine gAl b S14 d22_34 rfl rfl 35 rfl ?_
  refine gAl b S14 d22_35 rfl rfl 36 rfl ?_
  have x15 := (nL (tL P6.lt g1))
  have x16 := (nL (tL (tL (tL P6.lt E1.1) K2q.1) z5_nw1))
  have f17 := ((((P7.ext E1).keep K2q (ninS x15 nin0)).keep K5q nin0).keep K12q (ninS x16 nin0))
  have x18 := (nL (tL P8.lt g1))
  have x19 := (nL (tL (tL (tL P8.lt E1.1) K2q.1) z5_nw1))
  have f20 := ((((P8.ext E1).keep K2q (ninS x18 nin0)).keep K5q nin0).keep K12q (ninS x19 nin0))
  have f21 := ((((P9.ext E1).keep K2q (ninS x15 nin0)).keep K5q nin0).keep K12q (ninS x16 nin0))
  have f22 := ((((P10.ext E1).keep K2q).keep K5q).keep K12q)
  have x23 := (nL (tL P10.lt g1))
  have x24 := (nL (tL (tL (tL P10.lt E1.1) K2q.1) z5_nw1))
  have f25 := ((((P11.ext E1).keep K2q (ninS x23 nin0)).keep K5q nin0).keep K12q (ninS x24 nin0))
  have f26 := ((((P12.ext E1).keep K2q).keep K5q).keep K12q)
  have x27 := (nL (tL P12.lt g1))
  have x28 := (nL (tL (tL (tL P12.lt E1.1) K2q.1) z5_nw1))
  have f29 := ((((P13.ext E1).keep K2q (ninS x27 nin0)).keep K5q nin0).keep K12q (ninS x28 nin0))
  have f30 := ((((P14.ext E1).keep K2q (ninS x27 nin0)).keep K5q nin0).keep K12q (ninS x28 nin0))
  have x31 := (nL (tL P15.lt g1))
  have x32 := (nL (tL (tL (tL P15.lt E1.1) K2q.1) z5_nw1))
  have f33 := ((((P15.ext E1).keep K2q (ninS x31 nin0)).keep K5q nin0).keep K12q (ninS x32 nin0))
  have f34 := ((((P16.ext E1).keep K2q).keep K5q).keep K12q)
  have x35 := (nL (tL P16.lt g1))
  have x36 := (nL (tL (tL (tL P16.lt E1.1) K2q.1) z5_nw1))
  have f37 := ((((P17.ext E1).keep K2q (ninS x35 nin0)).keep K5q nin0).keep K12q (ninS x36 nin0))
  have f38 := (((A1.keep K2q).keep K5q).keep K12q)
  have x39 := (nL (tL (tL A1.lt K2q.1) z5_nw1))
  have f40 := ((R2_0.keep K5q nin0).keep K12q (ninS x39 nin0))
  have f41 := ((R2_1.keep K5q nin0).keep K12q (ninS x39 nin0))
  have f42 := ((((own_dI @D1 (.inl (W 103 rfl)) pf2).kf K2q KF2q (nofB (sn5 W) (nofB (sn4 W) nof0))).keep K5q nin0).keep K12q (ninS x39 nin0))
  have f43 := ((((P20.ext E1).keep K2q (ninS x15 nin0)).keep K5q nin0).keep K12q (ninS x16 nin0))
  have f44 := ((((P21.ext E1).keep K2q (ninS x15 nin0)).keep K5q nin0).keep K12q (ninS x16 nin0))
  have f45 := ((((P22.ext E1).keep K2q (ninS x35 nin0)).keep K5q nin0).keep K12q (ninS x36 nin0))
  have f46 := ((((P28.ext E1).keep K2q (ninS x35 nin0)).keep K5q nin0).keep K12q (ninS x36 nin0))
  have f47 := ((((P29.ext E1).keep K2q (ninS x35 nin0)).keep K5q nin0).keep K12q (ninS x36 nin0))
  have f48 := ((((P30.ext E1).keep K2q (ninS x15 nin0)).keep K5q nin0).keep K12q (ninS x16 nin0))
  have f49 := ((((P31.ext E1).keep K2q (ninS x35 nin0)).keep K5q nin0).keep K12q (ninS x36 nin0))
  refine cS b S14 d22_36 (W 259 rfl) (W 260 rfl) (W 9 rfl) (W 261 rfl) (rm28_86 W S14.i f13 f17 f20 f21 f22 f25 f26 f29 f30 f33 f34 f37 f38 f40 (S0.ge g1) f41 f42 P18 P0 x35 P19 f43 f44 f45 P23 P24 P25 P26 P27 f46 f47 f48 f49 P32 x15 x18 x23 x27 x31) (by decide) (lenOf pd_22 rfl) rfl [] rfl 0 (own_le rfl) rfl 39 rfl fun T50 L50 v50 X50 q50 => ?_
  obtain ⟨nw1_50, kw1_50, rfl, N50q, K50q, KF50q, z50_nw1, R50_0, R50_1, R50_2, R50_3, R50_4, R50_5, R50_6, R50_7, R50_8, R50_9, R50_10⟩ := q50
  have S50 := S14.call X50 N50q K50q KF50q (allS (.inr (S0.sz g1)) (allS (.inl (mI 1 rfl)) (allS (.inl (mI 0 rfl)) all0))) (fallS (.inr (.inr (S0.sz g1))) (fallS (.inr (.inr (S0.sz g1))) (fallS (.inr (.inr (S0.sz g1))) (fallS (.inl (mI 5 rfl)) (fallS (.inl (mI 4 rfl)) (fallS (.inl (mI 3 rfl)) (fallS (.inl (mI 2 rfl)) (fallS (.inl (mI 1 rfl)) (fallS (.inl (mI 0 rfl)) fall0))))))))) (allS (S0.ge g1) (allS P19 (allS P32 all0)))
  refine gRn ?_
  refine gGoto b S50 d22_39 15 (by decide) rfl ?_
  refine gAl b S50 d22_15 rfl rfl 16 rfl ?_
  have f51 := (R12_0.keep K50q (ninS (nS x39) (ninS (nS x36) (ninS (nS x16) nin0))))
  have f52 := ((R5_2.kf K12q KF12q (nofB (sn119 W) (nofB (sn103 W) nof0))).keep K50q (ninS (nS x39) (ninS (nS x36) (ninS (nS x16) nin0))))
  have x53 := (nL (tL (tL (tL P1.lt E1.1) K2q.1) z5_nw1))
  have f54 := ((f6.keep K12q (ninS x53 nin0)).keep K50q (ninS x3 (ninS P34 (ninS P33 nin0))))
  refine cI (xi := yy56) b S50 d22_16 (W 231 rfl) (W 232 rfl) (fun hZ => mvT hZ (W 233 rfl)) (W 234 rfl) (W 235 rfl) (W 236 rfl) (W 237 rfl) (W 238 rfl) (W 218 rfl) (W 239 rfl) (rm25_42 W S50.i f51 f52 f54) ((R5_0.keep K12q).keep K50q) (by decide) (lenOf pd_11 rfl) rfl [] rfl 0 (own_le rfl) rfl 21 rfl fun T55 L55 v55 X55 q55 => ?_
  obtain ⟨rfl, N55q, e55⟩ := q55
  have S55 := S50.same X55 N55q e55
  refine gRv ?_
  refine gIfY b S55 d22_21 rfl 42 (by decide) rfl ?_
  refine gAl b S55 d22_42 rfl rfl 43 rfl ?_
  have x56 := (nS (nL (tL (tL (tL (tL A1.lt K2q.1) K5q.1) K12q.1) z50_nw1)))
  exact gRetA b S55 d22_43 rfl rfl rfl (own_le rfl) (own_le rfl) ⟨b1, nw1_50, kw1_50, rfl, S55.f, S55.k, S55.kf, (S0.sz g1), (S14.sz z50_nw1), R50_8, R50_7, R50_6, R50_5, R50_4, R50_3, (f38.keep K50q), R50_0, R50_1, R50_2, R50_9, R50_10, x56⟩
def Q_rm40_93 (Z : State) (ra1 ra2 ra3 ra4 ra5 ra6 ra7 : Addr) (ca8 : ClassId) (h0 : Heap) (n0 : Nat) (v : Option Value) (h : Heap) (L : List Loc) : Prop := v = some (.ref ra6) ∧ Fr n0 L ∧ h = h0
theorem rm40_93 (W : Wd a0 Z) (I0 : IO Z n0 h0) {ra1 ra2 ra3 ra4 ra5 ra6 ra7 : Addr} {ca8 : ClassId} (P0 : Fld Z h0 ra1 ss8 ss22 ss18 (.ref ra2)) (P1 : Fld Z h0 ra1 ss8 ss24 "I" (.int (1 : Int32))) (P2 : Exa Z h0 ra2 ss10) (P3 : Fld Z h0 ra2 ss10 ss19 ss20 (.ref ra3)) (P4 : Exa Z h0 ra3 ss2) (P5 : Fld Z h0 ra3 ss2 ss3 "I" (.int (3 : Int32))) (P6 : Fld Z h0 ra3 ss2 ss12 ss7 (.ref ra4)) (P7 : Arv Z h0 ra4 ca8 (.object ss4) (10 : Int32) [(.ref ra5), (.ref ra6), (.ref ra7), .null, .null, .null, .null, .null, .null, .null] .null) (P8 : Exa Z h0 ra6 ss1) : OwnM l yy18 (.code yy18 k40_ 1 (some (.object ss1))) ⟨4, 0, 0, 53⟩ #[(.ref ra1)] Z h0 (Q_rm40_93 Z ra1 ra2 ra3 ra4 ra5 ra6 ra7 ca8 h0 n0) := by
  refine own_open [] [] #[.val (.ref ra1)] (plainFor_of_name pn_5) I0 ?_
  intro p e s m below meth c T b S0
  refine gAl b S0 d40_0 rfl rfl 1 rfl ?_
  refine gGf (host := "") b S0 d40_1 (.inl (W 52 rfl)) Via.refl P0 4 rfl fun T1 S1 => ?_
  refine gAl b S1 d40_4 rfl rfl 5 rfl ?_
  refine gGf (host := "") b S1 d40_5 (.inl (W 54 rfl)) Via.refl P1 8 rfl fun T2 S2 => ?_
  refine cV b S2 d40_8 (W 306 rfl) (W 270 rfl) (W 272 rfl) (W 271 rfl) (W 16 rfl) (W 273 rfl) (rm30_63 W S2.i P3 P4 P5 P6 P7) P2 (by decide) (lenOf pd_19 rfl) rfl [] rfl 0 (own_le rfl) rfl 11 rfl fun T3 L3 v3 X3 q3 => ?_
  obtain ⟨rfl, N3q, e3⟩ := q3
  have S3 := S2.same X3 N3q e3
  refine gRv ?_
  refine gCc b S3 d40_11 (W 67 rfl) (Ins.self P8) 14 rfl fun T4 S4 => ?_
  exact gRetA b S4 d40_14 rfl rfl rfl (own_le rfl) (own_le rfl) ⟨rfl, S4.f, rfl⟩
def Q_rm49_94 (Z : State) (ra1 : Addr) (h0 : Heap) (n0 : Nat) (v : Option Value) (h : Heap) (L : List Loc) : Prop := v = some (.int (1 : Int32)) ∧ Fr n0 L ∧ h = h0
theorem rm49_94 (W : Wd a0 Z) (I0 : IO Z n0 h0) {ra1 : Addr} (P0 : Fld Z h0 ra1 ss1 ss21 "I" (.int (1 : Int32))) (P1 : Fld Z h0 ra1 ss1 ss3 "I" (.int (1 : Int32))) : OwnM l yy28 (.code yy28 k49_ 1 (some .boolean)) ⟨0, 0, 0, 0⟩ #[(.ref ra1)] Z h0 (Q_rm49_94 Z ra1 h0 n0) := by
  refine own_open [] [] #[.val (.ref ra1)] (plainFor_of_name pn_6) I0 ?_
  intro p e s m below meth c T b S0
  refine gAl b S0 d49_0 rfl rfl 1 rfl ?_
  refine gGf (host := "") b S0 d49_1 (.inl (W 340 rfl)) Via.refl P0 4 rfl fun T1 S1 => ?_
  refine gAl b S1 d49_4 rfl rfl 5 rfl ?_
  refine gGf (host := "") b S1 d49_5 (.inl (W 398 rfl)) Via.refl P1 8 rfl fun T2 S2 => ?_
  refine gIcN b S2 d49_8 rfl 11 rfl ?_
  refine gIc b S2 d49_11 1 rfl 12 rfl ?_
  refine gGoto b S2 d49_12 16 (by decide) rfl ?_
  exact gRetZ b S2 d49_16 (own_le rfl) (own_le rfl) ⟨rfl, S2.f, rfl⟩
def Q_rm33_100 (Z : State)  (h0 : Heap) (n0 : Nat) (v : Option Value) (h : Heap) (L : List Loc) : Prop := v = some (.int (2 : Int32)) ∧ Fr n0 L ∧ h = h0
theorem rm33_100 (W : Wd a0 Z) (I0 : IO Z n0 h0)   : OwnM l yy64 (.code yy64 k33_ 3 (some .int)) ⟨0, 0, 0, 0⟩ #[(.int (2 : Int32)), (.int (3 : Int32)), .null] Z h0 (Q_rm33_100 Z  h0 n0) := by
  refine own_open [] [] #[.val (.int (2 : Int32)), .val (.int (3 : Int32)), .val .null] (plainFor_of_name pn_11) I0 ?_
  intro p e s m below meth c T b S0
  refine gIl b S0 d33_0 rfl 1 rfl ?_
  refine gIfN b S0 d33_1 rfl 4 rfl ?_
  refine gIl b S0 d33_4 rfl 5 rfl ?_
  refine gIl b S0 d33_5 rfl 6 rfl ?_
  refine gIcY b S0 d33_6 rfl 16 (by decide) rfl ?_
  refine gIl b S0 d33_16 rfl 17 rfl ?_
  exact gRetI b S0 d33_17 (own_le rfl) (own_le rfl) ⟨rfl, S0.f, rfl⟩
def Q_rm32_99 (Z : State)  (h0 : Heap) (n0 : Nat) (v : Option Value) (h : Heap) (L : List Loc) : Prop := v = some (.int (2 : Int32)) ∧ Fr n0 L ∧ h = h0
theorem rm32_99 (W : Wd a0 Z) (I0 : IO Z n0 h0)   : OwnM l yy63 (.code yy63 k32_ 2 (some .int)) ⟨1, 0, 0, 14⟩ #[(.int (2 : Int32)), (.int (3 : Int32))] Z h0 (Q_rm32_99 Z  h0 n0) := by
  refine own_open [] [] #[.val (.int (2 : Int32)), .val (.int (3 : Int32))] (plainFor_of_name pn_12) I0 ?_
  intro p e s m below meth c T b S0
  refine gIl b S0 d32_0 rfl 1 rfl ?_
  refine gIl b S0 d32_1 rfl 2 rfl ?_
  refine gNull b S0 d32_2 3 rfl ?_
  refine cS b S0 d32_3 (W 286 rfl) (W 287 rfl) (W 288 rfl) (W 289 rfl) (rm33_100 W S0.i) (by decide) (lenOf pd_18 rfl) rfl [] rfl 0 (own_le rfl) rfl 6 rfl fun T1 L1 v1 X1 q1 => ?_
  obtain ⟨rfl, N1q, e1⟩ := q1
  have S1 := S0.same X1 N1q e1
  refine gRv ?_
  exact gRetI b S1 d32_6 (own_le rfl) (own_le rfl) ⟨rfl, S1.f, rfl⟩
def Q_rm34_101 (Z : State) (ra1 ra2 ra3 ra4 ra5 : Addr) (ca6 : ClassId) (h0 : Heap) (n0 : Nat) (v : Option Value) (h : Heap) (L : List Loc) : Prop := v = some (.ref ra5) ∧ Fr n0 L ∧ h = h0
theorem rm34_101 (W : Wd a0 Z) (I0 : IO Z n0 h0) {ra1 ra2 ra3 ra4 ra5 : Addr} {ca6 : ClassId} (P0 : Fld Z h0 ra1 ss2 ss12 ss7 (.ref ra2)) (P1 : Arv Z h0 ra2 ca6 (.object ss4) (10 : Int32) [(.ref ra3), (.ref ra4), (.ref ra5), .null, .null, .null, .null, .null, .null, .null] .null) : OwnM l yy45 (.code yy45 k34_ 2 (some (.object ss4))) ⟨0, 0, 0, 0⟩ #[(.ref ra1), (.int (2 : Int32))] Z h0 (Q_rm34_101 Z ra1 ra2 ra3 ra4 ra5 ca6 h0 n0) := by
  refine own_open [] [] #[.val (.ref ra1), .val (.int (2 : Int32))] (plainFor_of_name pn_3) I0 ?_
  intro p e s m below meth c T b S0
  refine gAl b S0 d34_0 rfl rfl 1 rfl ?_
  refine gGf (host := "") b S0 d34_1 (.inl (W 43 rfl)) Via.refl P0 4 rfl fun T1 S1 => ?_
  refine gIl b S1 d34_4 rfl 5 rfl ?_
  refine gAald b S1 d34_5 P1 rfl (by decide) (by decide) (.ref ra5) rfl 6 rfl ?_
  exact gRetA b S1 d34_6 rfl rfl rfl (own_le rfl) (own_le rfl) ⟨rfl, S1.f, rfl⟩
def Q_rm31_98 (Z : State) (ra1 ra2 ra3 ra4 ra5 : Addr) (ca6 : ClassId) (h0 : Heap) (n0 : Nat) (v : Option Value) (h : Heap) (L : List Loc) : Prop := v = some (.ref ra5) ∧ Fr n0 L ∧ h = h0
theorem rm31_98 (W : Wd a0 Z) (I0 : IO Z n0 h0) {ra1 ra2 ra3 ra4 ra5 : Addr} {ca6 : ClassId} (P0 : Fld Z h0 ra1 ss2 ss3 "I" (.int (3 : Int32))) (P1 : Exa Z h0 ra1 ss2) (P2 : Fld Z h0 ra1 ss2 ss12 ss7 (.ref ra2)) (P3 : Arv Z h0 ra2 ca6 (.object ss4) (10 : Int32) [(.ref ra3), (.ref ra4), (.ref ra5), .null, .null, .null, .null, .null, .null, .null] .null) : OwnM l yy46 (.code yy46 k31_ 2 (some (.object ss4))) ⟨2, 0, 0, 27⟩ #[(.ref ra1), (.int (2 : Int32))] Z h0 (Q_rm31_98 Z ra1 ra2 ra3 ra4 ra5 ca6 h0 n0) := by
  refine own_open [] [] #[.val (.ref ra1), .val (.int (2 : Int32))] (plainFor_of_name pn_3) I0 ?_
  intro p e s m below meth c T b S0
  refine gIl b S0 d31_0 rfl 1 rfl ?_
  refine gAl b S0 d31_1 rfl rfl 2 rfl ?_
  refine gGf (host := "") b S0 d31_2 (.inl (W 102 rfl)) Via.refl P0 5 rfl fun T1 S1 => ?_
  refine cS b S1 d31_5 (W 282 rfl) (W 283 rfl) (W 284 rfl) (W 285 rfl) (rm32_99 W S1.i) (by decide) (lenOf pd_2 rfl) rfl [] rfl 0 (own_le rfl) rfl 8 rfl fun T2 L2 v2 X2 q2 => ?_
  obtain ⟨rfl, N2q, e2⟩ := q2
  have S2 := S1.same X2 N2q e2
  refine gRv ?_
  refine gPop b S2 d31_8 rfl 9 rfl ?_
  refine gAl b S2 d31_9 rfl rfl 10 rfl ?_
  refine gIl b S2 d31_10 rfl 11 rfl ?_
  refine cV b S2 d31_11 (W 290 rfl) (W 291 rfl) (W 293 rfl) (W 292 rfl) (W 23 rfl) (W 294 rfl) (rm34_101 W S2.i P2 P3) P1 (by decide) (lenOf pd_19 rfl) rfl [] rfl 0 (own_le rfl) rfl 14 rfl fun T3 L3 v3 X3 q3 => ?_
  obtain ⟨rfl, N3q, e3⟩ := q3
  have S3 := S2.same X3 N3q e3
  refine gRv ?_
  exact gRetA b S3 d31_14 rfl rfl rfl (own_le rfl) (own_le rfl) ⟨rfl, S3.f, rfl⟩
def Q_rm30_97 (Z : State) (ra1 ra2 ra3 ra4 ra5 ra6 : Addr) (ca7 : ClassId) (h0 : Heap) (n0 : Nat) (v : Option Value) (h : Heap) (L : List Loc) : Prop := v = some (.ref ra6) ∧ Fr n0 L ∧ h = h0
theorem rm30_97 (W : Wd a0 Z) (I0 : IO Z n0 h0) {ra1 ra2 ra3 ra4 ra5 ra6 : Addr} {ca7 : ClassId} (P0 : Fld Z h0 ra1 ss10 ss19 ss20 (.ref ra2)) (P1 : Exa Z h0 ra2 ss2) (P2 : Fld Z h0 ra2 ss2 ss3 "I" (.int (3 : Int32))) (P3 : Fld Z h0 ra2 ss2 ss12 ss7 (.ref ra3)) (P4 : Arv Z h0 ra3 ca7 (.object ss4) (10 : Int32) [(.ref ra4), (.ref ra5), (.ref ra6), .null, .null, .null, .null, .null, .null, .null] .null) : OwnM l yy35 (.code yy35 k30_ 2 (some (.object ss4))) ⟨3, 0, 0, 40⟩ #[(.ref ra1), (.int (2 : Int32))] Z h0 (Q_rm30_97 Z ra1 ra2 ra3 ra4 ra5 ra6 ca7 h0 n0) := by
  refine own_open [] [] #[.val (.ref ra1), .val (.int (2 : Int32))] (plainFor_of_name pn_4) I0 ?_
  intro p e s m below meth c T b S0
  refine gIl b S0 d30_0 rfl 1 rfl ?_
  refine gIc b S0 d30_1 (-1) rfl 2 rfl ?_
  refine gIcY b S0 d30_2 rfl 9 (by decide) rfl ?_
  refine gAl b S0 d30_9 rfl rfl 10 rfl ?_
  refine gGf (host := "") b S0 d30_10 (.inl (W 45 rfl)) Via.refl P0 13 rfl fun T1 S1 => ?_
  refine gIl b S1 d30_13 rfl 14 rfl ?_
  refine cI (xi := yy59) b S1 d30_14 (W 274 rfl) (W 275 rfl) (fun hZ => mvT hZ (W 276 rfl)) (W 277 rfl) (W 278 rfl) (W 279 rfl) (W 280 rfl) (W 98 rfl) (W 23 rfl) (W 281 rfl) (rm31_98 W S1.i P2 P1 P3 P4) P1 (by decide) (lenOf pd_19 rfl) rfl [] rfl 0 (own_le rfl) rfl 19 rfl fun T2 L2 v2 X2 q2 => ?_
  obtain ⟨rfl, N2q, e2⟩ := q2
  have S2 := S1.same X2 N2q e2
  refine gRv ?_
  exact gRetA b S2 d30_19 rfl rfl rfl (own_le rfl) (own_le rfl) ⟨rfl, S2.f, rfl⟩
def Q_rm51_96 (Z : State) (ra1 ra2 ra3 ra4 ra5 ra6 ra7 : Addr) (ca8 : ClassId) (h0 : Heap) (n0 : Nat) (v : Option Value) (h : Heap) (L : List Loc) : Prop := v = some (.ref ra7) ∧ Fr n0 L ∧ h = h0
theorem rm51_96 (W : Wd a0 Z) (I0 : IO Z n0 h0) {ra1 ra2 ra3 ra4 ra5 ra6 ra7 : Addr} {ca8 : ClassId} (P0 : Fld Z h0 ra1 ss1 ss15 ss16 (.ref ra2)) (P1 : Fld Z h0 ra2 ss8 ss22 ss18 (.ref ra3)) (P2 : Fld Z h0 ra1 ss1 ss11 "I" (.int (2 : Int32))) (P3 : Exa Z h0 ra3 ss10) (P4 : Fld Z h0 ra3 ss10 ss19 ss20 (.ref ra4)) (P5 : Exa Z h0 ra4 ss2) (P6 : Fld Z h0 ra4 ss2 ss3 "I" (.int (3 : Int32))) (P7 : Fld Z h0 ra4 ss2 ss12 ss7 (.ref ra5)) (P8 : Arv Z h0 ra5 ca8 (.object ss4) (10 : Int32) [(.ref ra6), (.ref ra1), (.ref ra7), .null, .null, .null, .null, .null, .null, .null] .null) (P9 : Exa Z h0 ra7 ss1) : OwnM l yy32 (.code yy32 k51_ 1 (some (.object ss1))) ⟨4, 0, 0, 53⟩ #[(.ref ra1)] Z h0 (Q_rm51_96 Z ra1 ra2 ra3 ra4 ra5 ra6 ra7 ca8 h0 n0) := by
  refine own_open [] [] #[.val (.ref ra1)] (plainFor_of_name pn_6) I0 ?_
  intro p e s m below meth c T b S0
  refine gAl b S0 d51_0 rfl rfl 1 rfl ?_
  refine gGf (host := "") b S0 d51_1 (.inl (W 80 rfl)) Via.refl P0 4 rfl fun T1 S1 => ?_
  refine gGf b S1 d51_4 (.inr (W 407 rfl)) Via.refl P1 7 rfl fun T2 S2 => ?_
  refine gAl b S2 d51_7 rfl rfl 8 rfl ?_
  refine gGf (host := "") b S2 d51_8 (.inl (W 78 rfl)) Via.refl P2 11 rfl fun T3 S3 => ?_
  refine cV b S3 d51_11 (W 367 rfl) (W 270 rfl) (W 272 rfl) (W 271 rfl) (W 16 rfl) (W 273 rfl) (rm30_97 W S3.i P4 P5 P6 P7 P8) P3 (by decide) (lenOf pd_19 rfl) rfl [] rfl 0 (own_le rfl) rfl 14 rfl fun T4 L4 v4 X4 q4 => ?_
  obtain ⟨rfl, N4q, e4⟩ := q4
  have S4 := S3.same X4 N4q e4
  refine gRv ?_
  refine gCc b S4 d51_14 (W 408 rfl) (Ins.self P9) 17 rfl fun T5 S5 => ?_
  exact gRetA b S5 d51_17 rfl rfl rfl (own_le rfl) (own_le rfl) ⟨rfl, S5.f, rfl⟩
def Q_rm51_102 (Z : State) (ra1 ra2 ra3 : Addr) (h0 : Heap) (n0 : Nat) (v : Option Value) (h : Heap) (L : List Loc) : Prop := v = some .null ∧ Fr n0 L ∧ h = h0
theorem rm51_102 (W : Wd a0 Z) (I0 : IO Z n0 h0) {ra1 ra2 ra3 : Addr} (P0 : Fld Z h0 ra1 ss1 ss15 ss16 (.ref ra2)) (P1 : Fld Z h0 ra2 ss8 ss22 ss18 (.ref ra3)) (P2 : Fld Z h0 ra1 ss1 ss11 "I" (.int (-1 : Int32))) (P3 : Exa Z h0 ra3 ss10) : OwnM l yy32 (.code yy32 k51_ 1 (some (.object ss1))) ⟨1, 0, 0, 13⟩ #[(.ref ra1)] Z h0 (Q_rm51_102 Z ra1 ra2 ra3 h0 n0) := by
  refine own_open [] [] #[.val (.ref ra1)] (plainFor_of_name pn_6) I0 ?_
  intro p e s m below meth c T b S0
  refine gAl b S0 d51_0 rfl rfl 1 rfl ?_
  refine gGf (host := "") b S0 d51_1 (.inl (W 80 rfl)) Via.refl P0 4 rfl fun T1 S1 => ?_
  refine gGf b S1 d51_4 (.inr (W 407 rfl)) Via.refl P1 7 rfl fun T2 S2 => ?_
  refine gAl b S2 d51_7 rfl rfl 8 rfl ?_
  refine gGf (host := "") b S2 d51_8 (.inl (W 78 rfl)) Via.refl P2 11 rfl fun T3 S3 => ?_
  refine cV b S3 d51_11 (W 367 rfl) (W 270 rfl) (W 272 rfl) (W 271 rfl) (W 16 rfl) (W 273 rfl) (rm30_47 W S3.i) P3 (by decide) (lenOf pd_19 rfl) rfl [] rfl 0 (own_le rfl) rfl 14 rfl fun T4 L4 v4 X4 q4 => ?_
  obtain ⟨rfl, N4q, e4⟩ := q4
  have S4 := S3.same X4 N4q e4
  refine gRv ?_
  refine gCcN b S4 d51_14 17 rfl ?_
  exact gRetA b S4 d51_17 rfl rfl rfl (own_le rfl) (own_le rfl) ⟨rfl, S4.f, rfl⟩
def Q_rm50_95 (Z : State) (ra1 ra2 ra3 ra4 ra5 ra6 ra7 ra8 : Addr) (ca9 : ClassId) (h0 : Heap) (n0 : Nat) (v : Option Value) (h : Heap) (L : List Loc) : Prop := v = some .null ∧ Fr n0 L ∧ h = h0
theorem rm50_95 (W : Wd a0 Z) (I0 : IO Z n0 h0) {ra1 ra2 ra3 ra4 ra5 ra6 ra7 ra8 : Addr} {ca9 : ClassId} (P0 : Exa Z h0 ra1 ss1) (P1 : Fld Z h0 ra1 ss1 "kind" ss27 (.ref ra2)) (P2 : Sta Z Z.heap ss32 "A" ss33 (.ref ra2)) (P3 : Fld Z h0 ra1 ss1 ss15 ss16 (.ref ra3)) (P4 : Fld Z h0 ra3 ss8 ss22 ss18 (.ref ra4)) (P5 : Fld Z h0 ra1 ss1 ss11 "I" (.int (2 : Int32))) (P6 : Exa Z h0 ra4 ss10) (P7 : Fld Z h0 ra4 ss10 ss19 ss20 (.ref ra5)) (P8 : Exa Z h0 ra5 ss2) (P9 : Fld Z h0 ra5 ss2 ss3 "I" (.int (3 : Int32))) (P10 : Fld Z h0 ra5 ss2 ss12 ss7 (.ref ra6)) (P11 : Arv Z h0 ra6 ca9 (.object ss4) (10 : Int32) [(.ref ra7), (.ref ra1), (.ref ra8), .null, .null, .null, .null, .null, .null, .null] .null) (P12 : Exa Z h0 ra8 ss1) (P13 : Fld Z h0 ra8 ss1 ss15 ss16 (.ref ra3)) (P14 : Fld Z h0 ra8 ss1 ss11 "I" (.int (-1 : Int32))) : OwnM l yy7 (.code yy7 k50_ 1 (some (.object ss1))) ⟨5, 0, 0, 65⟩ #[(.ref ra1)] Z h0 (Q_rm50_95 Z ra1 ra2 ra3 ra4 ra5 ra6 ra7 ra8 ca9 h0 n0) := by
  refine own_open [] [] #[.val (.ref ra1)] (plainFor_of_name pn_7) I0 ?_
  intro p e s m below meth c T b S0
  refine gAl b S0 d50_0 rfl rfl 1 rfl ?_
  refine cV b S0 d50_1 (W 316 rfl) (W 317 rfl) (W 319 rfl) (W 318 rfl) (W 69 rfl) (W 320 rfl) (rm38_44 W S0.i P1) P0 (by decide) (lenOf pd_17 rfl) rfl [] rfl 0 (own_le rfl) rfl 4 rfl fun T1 L1 v1 X1 q1 => ?_
  obtain ⟨rfl, N1q, e1⟩ := q1
  have S1 := S0.same X1 N1q e1
  refine gRv ?_
  refine gGs b S1 d50_4 (W 321 rfl) P2 7 rfl fun T2 S2 => ?_
  refine gAc b S2 d50_7 rfl rfl true (decide_eq_true rfl) 10 (by decide) (by decide) ?_
  refine gAl b S2 d50_10 rfl rfl 11 rfl ?_
  refine cV b S2 d50_11 (W 402 rfl) (W 403 rfl) (W 405 rfl) (W 404 rfl) (W 69 rfl) (W 406 rfl) (rm51_96 W S2.i P3 P4 P5 P6 P7 P8 P9 P10 P11 P12) P0 (by decide) (lenOf pd_20 rfl) rfl [] rfl 0 (own_le rfl) rfl 14 rfl fun T3 L3 v3 X3 q3 => ?_
  obtain ⟨rfl, N3q, e3⟩ := q3
  have S3 := S2.same X3 N3q e3
  refine gRv ?_
  refine cV b S3 d50_14 (W 402 rfl) (W 403 rfl) (W 405 rfl) (W 404 rfl) (W 69 rfl) (W 406 rfl) (rm51_102 W S3.i P13 P4 P14 P6) P12 (by decide) (lenOf pd_20 rfl) rfl [] rfl 0 (own_le rfl) rfl 17 rfl fun T4 L4 v4 X4 q4 => ?_
  obtain ⟨rfl, N4q, e4⟩ := q4
  have S4 := S3.same X4 N4q e4
  refine gRv ?_
  refine gGoto b S4 d50_17 27 (by decide) rfl ?_
  exact gRetA b S4 d50_27 rfl rfl rfl (own_le rfl) (own_le rfl) ⟨rfl, S4.f, rfl⟩
def Q_rm41_103 (Z : State) (ra1 : Addr) (h0 : Heap) (n0 : Nat) (v : Option Value) (h : Heap) (L : List Loc) : Prop := v = some (.int (0 : Int32)) ∧ Fr n0 L ∧ h = h0
theorem rm41_103 (W : Wd a0 Z) (I0 : IO Z n0 h0) {ra1 : Addr} (P0 : Fld Z h0 ra1 ss1 ss21 "I" (.int (0 : Int32))) : OwnM l yy31 (.code yy31 k41_ 1 (some .int)) ⟨0, 0, 0, 0⟩ #[(.ref ra1)] Z h0 (Q_rm41_103 Z ra1 h0 n0) := by
  refine own_open [] [] #[.val (.ref ra1)] (plainFor_of_name pn_6) I0 ?_
  intro p e s m below meth c T b S0
  refine gAl b S0 d41_0 rfl rfl 1 rfl ?_
  refine gGf (host := "") b S0 d41_1 (.inl (W 340 rfl)) Via.refl P0 4 rfl fun T1 S1 => ?_
  exact gRetI b S1 d41_4 (own_le rfl) (own_le rfl) ⟨rfl, S1.f, rfl⟩
def Q_rm53_105 (Z : State) (ra1 ra2 ra3 ra4 ra5 ra6 ra7 ra8 : Addr) (ca9 : ClassId) (h0 : Heap) (n0 : Nat) (v : Option Value) (h : Heap) (L : List Loc) : Prop := v = some (.ref ra8) ∧ Fr n0 L ∧ h = h0
theorem rm53_105 (W : Wd a0 Z) (I0 : IO Z n0 h0) {ra1 ra2 ra3 ra4 ra5 ra6 ra7 ra8 : Addr} {ca9 : ClassId} (P0 : Exa Z h0 ra1 ss1) (P1 : Fld Z h0 ra1 ss1 "kind" ss27 (.ref ra2)) (P2 : Sta Z Z.heap ss32 "A" ss33 (.ref ra2)) (P3 : Fld Z h0 ra1 ss1 ss15 ss16 (.ref ra3)) (P4 : Fld Z h0 ra3 ss8 ss22 ss18 (.ref ra4)) (P5 : Fld Z h0 ra1 ss1 ss11 "I" (.int (2 : Int32))) (P6 : Exa Z h0 ra4 ss10) (P7 : Fld Z h0 ra4 ss10 ss19 ss20 (.ref ra5)) (P8 : Exa Z h0 ra5 ss2) (P9 : Fld Z h0 ra5 ss2 ss3 "I" (.int (3 : Int32))) (P10 : Fld Z h0 ra5 ss2 ss12 ss7 (.ref ra6)) (P11 : Arv Z h0 ra6 ca9 (.object ss4) (10 : Int32) [(.ref ra7), (.ref ra1), (.ref ra8), .null, .null, .null, .null, .null, .null, .null] .null) (P12 : Exa Z h0 ra8 ss1) : OwnM l yy12 (.code yy12 k53_ 1 (some (.object ss1))) ⟨5, 0, 0, 65⟩ #[(.ref ra1)] Z h0 (Q_rm53_105 Z ra1 ra2 ra3 ra4 ra5 ra6 ra7 ra8 ca9 h0 n0) := by
  refine own_open [] [] #[.val (.ref ra1)] (plainFor_of_name pn_7) I0 ?_
  intro p e s m below meth c T b S0
  refine gAl b S0 d53_0 rfl rfl 1 rfl ?_
  refine cV b S0 d53_1 (W 316 rfl) (W 317 rfl) (W 319 rfl) (W 318 rfl) (W 69 rfl) (W 320 rfl) (rm38_44 W S0.i P1) P0 (by decide) (lenOf pd_17 rfl) rfl [] rfl 0 (own_le rfl) rfl 4 rfl fun T1 L1 v1 X1 q1 => ?_
  obtain ⟨rfl, N1q, e1⟩ := q1
  have S1 := S0.same X1 N1q e1
  refine gRv ?_
  refine gGs b S1 d53_4 (W 321 rfl) P2 7 rfl fun T2 S2 => ?_
  refine gAc b S2 d53_7 rfl rfl true (decide_eq_true rfl) 10 (by decide) (by decide) ?_
  refine gAl b S2 d53_10 rfl rfl 11 rfl ?_
  refine cV b S2 d53_11 (W 402 rfl) (W 403 rfl) (W 405 rfl) (W 404 rfl) (W 69 rfl) (W 406 rfl) (rm51_96 W S2.i P3 P4 P5 P6 P7 P8 P9 P10 P11 P12) P0 (by decide) (lenOf pd_20 rfl) rfl [] rfl 0 (own_le rfl) rfl 14 rfl fun T3 L3 v3 X3 q3 => ?_
  obtain ⟨rfl, N3q, e3⟩ := q3
  have S3 := S2.same X3 N3q e3
  refine gRv ?_
  refine gGoto b S3 d53_14 21 (by decide) rfl ?_
  exact gRetA b S3 d53_21 rfl rfl rfl (own_le rfl) (own_le rfl) ⟨rfl, S3.f, rfl⟩
def Q_rm12_109 (Z : State) (ra1 ra2 ra3 ra4 ra5 : Addr) (ca6 : ClassId) (h0 : Heap) (n0 : Nat) (v : Option Value) (h : Heap) (L : List Loc) : Prop := v = none ∧ Fr n0 L ∧ Keep h0 h [ra3, ra1] ∧ KeepF h0 h [(ra3, none), (ra1, some (sl17 Z))] ∧ Arv Z h ra3 ca6 (.object ss4) (10 : Int32) [(.ref ra4), (.ref ra5), (.ref ra2), .null, .null, .null, .null, .null, .null, .null] .null ∧ Fld Z h ra1 ss2 ss3 "I" (.int (3 : Int32))
theorem rm12_109 (W : Wd a0 Z) (I0 : IO Z n0 h0) {ra1 ra2 ra3 ra4 ra5 : Addr} {ca6 : ClassId} (P0 : Arv Z h0 ra3 ca6 (.object ss4) (10 : Int32) [(.ref ra4), (.ref ra5), .null, .null, .null, .null, .null, .null, .null, .null] .null) (P1 : Ovr Z ca6 ss4) (P2 : Exa Z h0 ra2 ss0) (P3 : n0 ≤ ra3) (P4 : Exa Z h0 ra1 ss2) (P5 : Fld Z h0 ra1 ss2 ss3 "I" (.int (2 : Int32))) (P6 : ra1 ≠ ra3) (P7 : n0 ≤ ra1) : OwnM l yy44 (.code yy44 k12_ 4 none) ⟨0, 0, 0, 0⟩ #[(.ref ra1), (.ref ra2), (.ref ra3), (.int (2 : Int32))] Z h0 (Q_rm12_109 Z ra1 ra2 ra3 ra4 ra5 ca6 h0 n0) := by
  refine own_open [ra3, ra1] [(ra3, none), (ra1, some (sl17 Z))] #[.val (.ref ra1), .val (.ref ra2), .val (.ref ra3), .val (.int (2 : Int32))] (plainFor_of_name pn_3) I0 ?_
  intro p e s m below meth c T b S0
  refine gIl b S0 d12_0 rfl 1 rfl ?_
  refine gAl b S0 d12_1 rfl rfl 2 rfl ?_
  refine gLen b S0 d12_2 P0 3 rfl ?_
  refine gIcY b S0 d12_3 rfl 11 (by decide) rfl ?_
  refine gAl b S0 d12_11 rfl rfl 12 rfl ?_
  refine gIl b S0 d12_12 rfl 13 rfl ?_
  refine gAl b S0 d12_13 rfl rfl 14 rfl ?_
  refine gAast b S0 d12_14 P0 P1 (Ins.of_exa P2 (W 168 rfl)) (by decide) (by decide) 2 rfl (own_le rfl) P3 (.inl ⟨mI 0 rfl, mI 0 rfl⟩) [(.ref ra4), (.ref ra5), (.ref ra2), .null, .null, .null, .null, .null, .null, .null] rfl 15 rfl fun T1 h1 W1 V1 S1 => ?_
  refine gAl b S1 d12_15 rfl rfl 16 rfl ?_
  refine gIl b S1 d12_16 rfl 17 rfl ?_
  refine gIc b S1 d12_17 1 rfl 18 rfl ?_
  refine gAdd b S1 d12_18 3 rfl 19 rfl ?_
  refine gPf (host := "") b S1 .int d12_19 (.inl (W 102 rfl)) Via.refl (P5.other W1 (Or.inl P6)) (P4.wr W1) (.inl (W 103 rfl)) (W 22 rfl) pf2 rfl rfl P7 (.inl ⟨mI 1 rfl, mI 1 rfl⟩) 22 rfl fun T2 h2 W2 F2 S2 => ?_
  exact gRetV b S2 d12_22 (own_le rfl) (own_le rfl) ⟨rfl, S2.f, S2.k, S2.kf, (V1.other W2 (nS P6)), F2⟩
def Q_rm11_108 (Z : State) (ra1 ra2 ra3 ra4 ra5 : Addr) (ca6 : ClassId) (h0 : Heap) (n0 : Nat) (v : Option Value) (h : Heap) (L : List Loc) : Prop := v = some (.int (1 : Int32)) ∧ Fr n0 L ∧ Keep h0 h [ra1, ra3] ∧ KeepF h0 h [(ra1, some (sl23 Z)), (ra1, some (sl17 Z)), (ra3, none)] ∧ Fld Z h ra1 ss5 ss6 "I" (.int (3 : Int32)) ∧ Fld Z h ra1 ss2 ss3 "I" (.int (3 : Int32)) ∧ Arv Z h ra3 ca6 (.object ss4) (10 : Int32) [(.ref ra4), (.ref ra5), (.ref ra2), .null, .null, .null, .null, .null, .null, .null] .null
theorem rm11_108 (W : Wd a0 Z) (I0 : IO Z n0 h0) {ra1 ra2 ra3 ra4 ra5 : Addr} {ca6 : ClassId} (P0 : Fld Z h0 ra1 ss5 ss6 "I" (.int (2 : Int32))) (P1 : Exa Z h0 ra1 ss2) (P2 : n0 ≤ ra1) (P3 : Fld Z h0 ra1 ss2 ss12 ss7 (.ref ra3)) (P4 : Fld Z h0 ra1 ss2 ss3 "I" (.int (2 : Int32))) (P5 : Arv Z h0 ra3 ca6 (.object ss4) (10 : Int32) [(.ref ra4), (.ref ra5), .null, .null, .null, .null, .null, .null, .null, .null] .null) (P6 : Ovr Z ca6 ss4) (P7 : Exa Z h0 ra2 ss0) (P8 : n0 ≤ ra3) (P9 : ra1 ≠ ra3) : OwnM l yy43 (.code yy43 k11_ 2 (some .boolean)) ⟨1, 0, 0, 15⟩ #[(.ref ra1), (.ref ra2)] Z h0 (Q_rm11_108 Z ra1 ra2 ra3 ra4 ra5 ca6 h0 n0) := by
  refine own_open [ra1, ra3] [(ra1, some (sl23 Z)), (ra1, some (sl17 Z)), (ra3, none)] #[.val (.ref ra1), .val (.ref ra2)] (plainFor_of_name pn_3) I0 ?_
  intro p e s m below meth c T b S0
  refine gAl b S0 d11_0 rfl rfl 1 rfl ?_
  refine gDup b S0 d11_1 rfl 2 rfl ?_
  refine gGf (host := "") b S0 d11_2 (.inl (W 100 rfl)) (Via.of (W 101 rfl)) P0 5 rfl fun T1 S1 => ?_
  refine gIc b S1 d11_5 1 rfl 6 rfl ?_
  refine gAdd b S1 d11_6 3 rfl 7 rfl ?_
  refine gPf (host := "") b S1 .int d11_7 (.inl (W 100 rfl)) (Via.of (W 101 rfl)) P0 P1 (.inl (W 41 rfl)) (W 22 rfl) pf2 rfl rfl P2 (.inl ⟨mI 0 rfl, mI 0 rfl⟩) 10 rfl fun T2 h2 W2 F2 S2 => ?_
  refine gAl b S2 d11_10 rfl rfl 11 rfl ?_
  refine gAl b S2 d11_11 rfl rfl 12 rfl ?_
  refine gAl b S2 d11_12 rfl rfl 13 rfl ?_
  refine gGf (host := "") b S2 d11_13 (.inl (W 43 rfl)) Via.refl (P3.other W2 (.inr (sn0 W))) 16 rfl fun T3 S3 => ?_
  refine gAl b S3 d11_16 rfl rfl 17 rfl ?_
  refine gGf (host := "") b S3 d11_17 (.inl (W 102 rfl)) Via.refl (P4.other W2 (.inr (sn5 W))) 20 rfl fun T4 S4 => ?_
  refine cP b S4 d11_20 (W 104 rfl) (W 105 rfl) (fun hZ => (mvT hZ (W 107 rfl))) (W 106 rfl) (W 23 rfl) (W 108 rfl) (rm12_109 W S4.i (P5.other W2 (nS P9)) P6 (P7.wr W2) P8 (P1.wr W2) (P4.other W2 (.inr (sn5 W))) P9 P2) (P1.wr W2) (by decide) (lenOf pd_5 rfl) rfl [] rfl 0 (own_le rfl) rfl 23 rfl fun T5 L5 v5 X5 q5 => ?_
  obtain ⟨rfl, N5q, K5q, KF5q, R5_0, R5_1⟩ := q5
  have S5 := S4.call X5 N5q K5q KF5q (allS (.inl (mI 1 rfl)) (allS (.inl (mI 0 rfl)) all0)) (fallS (.inl (mI 2 rfl)) (fallS (.inl (mI 1 rfl)) fall0)) (allS P8 (allS P2 all0))
  refine gRn ?_
  refine gIc b S5 d11_23 1 rfl 24 rfl ?_
  have f6 := (F2.kf K5q KF5q (nofA P9 (nofB (sn41 W) nof0)))
  exact gRetZ b S5 d11_24 (own_le rfl) (own_le rfl) ⟨rfl, S5.f, S5.k, S5.kf, f6, R5_1, R5_0⟩
def Q_rm10_107 (Z : State) (ra1 ra2 ra3 ra4 ra5 ra6 : Addr) (ca7 : ClassId) (h0 : Heap) (n0 : Nat) (v : Option Value) (h : Heap) (L : List Loc) : Prop := v = some (.int (2 : Int32)) ∧ Fr n0 L ∧ Keep h0 h [ra4, ra3] ∧ KeepF h0 h [(ra4, none), (ra3, some (sl17 Z)), (ra3, some (sl23 Z))] ∧ Arv Z h ra4 ca7 (.object ss4) (10 : Int32) [(.ref ra5), (.ref ra6), (.ref ra2), .null, .null, .null, .null, .null, .null, .null] .null ∧ Fld Z h ra3 ss2 ss3 "I" (.int (3 : Int32)) ∧ Fld Z h ra3 ss5 ss6 "I" (.int (3 : Int32))
theorem rm10_107 (W : Wd a0 Z) (I0 : IO Z n0 h0) {ra1 ra2 ra3 ra4 ra5 ra6 : Addr} {ca7 : ClassId} (P0 : Fld Z h0 ra1 ss10 ss26 "I" (.int (0 : Int32))) (P1 : Fld Z h0 ra1 ss10 ss19 ss20 (.ref ra3)) (P2 : Exa Z h0 ra3 ss2) (P3 : Fld Z h0 ra3 ss5 ss6 "I" (.int (2 : Int32))) (P4 : n0 ≤ ra3) (P5 : Fld Z h0 ra3 ss2 ss12 ss7 (.ref ra4)) (P6 : Fld Z h0 ra3 ss2 ss3 "I" (.int (2 : Int32))) (P7 : Arv Z h0 ra4 ca7 (.object ss4) (10 : Int32) [(.ref ra5), (.ref ra6), .null, .null, .null, .null, .null, .null, .null, .null] .null) (P8 : Ovr Z ca7 ss4) (P9 : Exa Z h0 ra2 ss0) (P10 : n0 ≤ ra4) (P11 : ra3 ≠ ra4) (P12 : ra1 ≠ ra4) (P13 : ra1 ≠ ra3) : OwnM l yy34 (.code yy34 k10_ 3 (some .int)) ⟨2, 0, 0, 28⟩ #[(.ref ra1), (.ref ra2)] Z h0 (Q_rm10_107 Z ra1 ra2 ra3 ra4 ra5 ra6 ca7 h0 n0) := by
  refine own_open [ra4, ra3] [(ra4, none), (ra3, some (sl17 Z)), (ra3, some (sl23 Z))] #[.val (.ref ra1), .val (.ref ra2), .unset] (plainFor_of_name pn_4) I0 ?_
  intro p e s m below meth c T b S0
  refine gAl b S0 d10_0 rfl rfl 1 rfl ?_
  refine gGf (host := "") b S0 d10_1 (.inl (W 89 rfl)) Via.refl P0 4 rfl fun T1 S1 => ?_
  refine gIfN b S1 d10_4 rfl 7 rfl ?_
  refine gAl b S1 d10_7 rfl rfl 8 rfl ?_
  refine gGf (host := "") b S1 d10_8 (.inl (W 45 rfl)) Via.refl P1 11 rfl fun T2 S2 => ?_
  refine gAl b S2 d10_11 rfl rfl 12 rfl ?_
  refine cI (xi := yy58) b S2 d10_12 (W 91 rfl) (W 92 rfl) (fun hZ => mvT hZ (W 93 rfl)) (W 94 rfl) (W 95 rfl) (W 96 rfl) (W 97 rfl) (W 98 rfl) (W 23 rfl) (W 99 rfl) (rm11_108 W S2.i P3 P2 P4 P5 P6 P7 P8 P9 P10 P11) P2 (by decide) (lenOf pd_6 rfl) rfl [] rfl 0 (own_le rfl) rfl 17 rfl fun T3 L3 v3 X3 q3 => ?_
  obtain ⟨rfl, N3q, K3q, KF3q, R3_0, R3_1, R3_2⟩ := q3
  have S3 := S2.call X3 N3q K3q KF3q (allS (.inl (mI 1 rfl)) (allS (.inl (mI 0 rfl)) all0)) (fallS (.inl (mI 2 rfl)) (fallS (.inl (mI 1 rfl)) (fallS (.inl (mI 0 rfl)) fall0))) (allS P4 (allS P10 all0))
  refine gRv ?_
  refine gPop b S3 d10_17 rfl 18 rfl ?_
  refine gAl b S3 d10_18 rfl rfl 19 rfl ?_
  have f4 := (P1.keep K3q (ninS P13 (ninS P12 nin0)))
  refine gGf (host := "") b S3 d10_19 (.inl (W 45 rfl)) Via.refl f4 22 rfl fun T5 S5 => ?_
  refine cI (xi := yy62) b S5 d10_22 (W 126 rfl) (W 127 rfl) (fun hZ => mvT hZ (W 128 rfl)) (W 129 rfl) (W 130 rfl) (W 131 rfl) (W 132 rfl) (W 98 rfl) (W 23 rfl) (W 133 rfl) (rm16_62 W S5.i R3_1) (P2.keep K3q) (by decide) (lenOf pd_7 rfl) rfl [] rfl 0 (own_le rfl) rfl 27 rfl fun T6 L6 v6 X6 q6 => ?_
  obtain ⟨rfl, N6q, e6⟩ := q6
  have S6 := S5.same X6 N6q e6
  refine gRv ?_
  refine gIc b S6 d10_27 1 rfl 28 rfl ?_
  refine gSub b S6 d10_28 2 rfl 29 rfl ?_
  exact gRetI b S6 d10_29 (own_le rfl) (own_le rfl) ⟨rfl, S6.f, S6.k, S6.kf, R3_2, R3_1, R3_0⟩
def Q_rm20_106 (Z : State) (ra1 ra2 ra3 ra4 ra5 ra6 ra7 ra8 : Addr) (ca9 : ClassId) (h0 : Heap) (n0 : Nat) (v : Option Value) (h : Heap) (L : List Loc) : Prop := v = none ∧ Fr n0 L ∧ Keep h0 h [ra1, ra5, ra6, ra8, ra2] ∧ KeepF h0 h [(ra1, some (sl3 Z)), (ra5, some (sl23 Z)), (ra5, some (sl17 Z)), (ra6, none), (ra1, some (sl4 Z)), (ra1, some (sl2 Z)), (ra1, some (sl6 Z)), (ra1, some (sl1 Z)), (ra8, some (sl6 Z)), (ra2, some (sl9 Z)), (ra2, some (sl12 Z))] ∧ Fld Z h ra1 ss0 ss15 ss16 (.ref ra3) ∧ Fld Z h ra5 ss5 ss6 "I" (.int (3 : Int32)) ∧ Fld Z h ra5 ss2 ss3 "I" (.int (3 : Int32)) ∧ Arv Z h ra6 ca9 (.object ss4) (10 : Int32) [(.ref ra7), (.ref ra8), (.ref ra1), .null, .null, .null, .null, .null, .null, .null] .null ∧ Fld Z h ra1 ss0 ss17 "I" (.int (2 : Int32)) ∧ Fld Z h ra1 ss0 ss14 "I" (.int (2 : Int32)) ∧ Fld Z h ra1 ss0 ss9 "I" (.int (-1 : Int32)) ∧ Fld Z h ra1 ss0 ss11 "I" (.int (1 : Int32)) ∧ Fld Z h ra8 ss0 ss9 "I" (.int (2 : Int32)) ∧ Fld Z h ra2 ss1 ss13 "I" (.int (2 : Int32)) ∧ Fld Z h ra2 ss1 ss3 "I" (.int (2 : Int32))
theorem rm20_106 (W : Wd a0 Z) (I0 : IO Z n0 h0) {ra1 ra2 ra3 ra4 ra5 ra6 ra7 ra8 : Addr} {ca9 : ClassId} (P0 : Fld Z h0 ra2 ss1 ss15 ss16 (.ref ra3)) (P1 : Fld Z h0 ra1 ss0 ss17 "I" (.int (-1 : Int32))) (P2 : Exa Z h0 ra1 ss0) (P3 : Fld Z h0 ra1 ss0 ss15 ss16 .null) (P4 : n0 ≤ ra1) (P5 : Fld Z h0 ra3 ss8 ss31 ss18 (.ref ra4)) (P6 : ra3 ≠ ra1) (P7 : Exa Z h0 ra4 ss10) (P8 : Fld Z h0 ra4 ss10 ss26 "I" (.int (0 : Int32))) (P9 : Fld Z h0 ra4 ss10 ss19 ss20 (.ref ra5)) (P10 : Exa Z h0 ra5 ss2) (P11 : Fld Z h0 ra5 ss5 ss6 "I" (.int (2 : Int32))) (P12 : n0 ≤ ra5) (P13 : Fld Z h0 ra5 ss2 ss12 ss7 (.ref ra6)) (P14 : Fld Z h0 ra5 ss2 ss3 "I" (.int (2 : Int32))) (P15 : Arv Z h0 ra6 ca9 (.object ss4) (10 : Int32) [(.ref ra7), (.ref ra8), .null, .null, .null, .null, .null, .null, .null, .null] .null) (P16 : Ovr Z ca9 ss4) (P17 : n0 ≤ ra6) (P18 : ra5 ≠ ra6) (P19 : ra4 ≠ ra6) (P20 : ra4 ≠ ra5) (P21 : ra4 ≠ ra1) (P22 : ra5 ≠ ra1) (P23 : ra6 ≠ ra1) (P24 : Fld Z h0 ra2 ss1 ss17 "I" (.int (2 : Int32))) (P25 : Exa Z h0 ra2 ss1) (P26 : ra2 ≠ ra1) (P27 : ra2 ≠ ra5) (P28 : ra2 ≠ ra6) (P29 : Fld Z h0 ra1 ss0 ss14 "I" (.int (-1 : Int32))) (P30 : Fld Z h0 ra1 ss0 ss9 "I" (.int (-1 : Int32))) (P31 : Fld Z h0 ra2 ss1 ss13 "I" (.int (1 : Int32))) (P32 : Fld Z h0 ra1 ss0 ss11 "I" (.int (-1 : Int32))) (P33 : ra3 ≠ ra5) (P34 : ra3 ≠ ra6) (P35 : Exa Z h0 ra8 ss0) (P36 : Fld Z h0 ra8 ss0 ss9 "I" (.int (-1 : Int32))) (P37 : ra8 ≠ ra1) (P38 : ra8 ≠ ra5) (P39 : ra8 ≠ ra6) (P40 : n0 ≤ ra8) (P41 : ra2 ≠ ra8) (P42 : n0 ≤ ra2) (P43 : Fld Z h0 ra2 ss1 ss3 "I" (.int (1 : Int32))) : OwnM l yy21 (.code yy21 k20_ 3 none) ⟨4, 0, 0, 53⟩ #[(.ref ra1), (.ref ra2)] Z h0 (Q_rm20_106 Z ra1 ra2 ra3 ra4 ra5 ra6 ra7 ra8 ca9 h0 n0) := by
  refine own_open [ra1, ra5, ra6, ra8, ra2] [(ra1, some (sl3 Z)), (ra5, some (sl23 Z)), (ra5, some (sl17 Z)), (ra6, none), (ra1, some (sl4 Z)), (ra1, some (sl2 Z)), (ra1, some (sl6 Z)), (ra1, some (sl1 Z)), (ra8, some (sl6 Z)), (ra2, some (sl9 Z)), (ra2, some (sl12 Z))] #[.val (.ref ra1), .val (.ref ra2), .unset] (plainFor_of_name pn_5) I0 ?_
  intro p e s m below meth c T b S0
  refine gAl b S0 d20_0 rfl rfl 1 rfl ?_
  refine gGfR b S0 d20_1 (W 186 rfl) Via.refl P0 4 rfl fun T1 S1 => ?_
  refine gAs b S1 d20_4 rfl #[.val (.ref ra1), .val (.ref ra2), .val (.ref ra3)] rfl 5 rfl ?_
  refine gAl b S1 d20_5 rfl rfl 6 rfl ?_
  refine gGfR b S1 d20_6 (W 187 rfl) Via.refl P1 9 rfl fun T2 S2 => ?_
  refine gIc b S2 d20_9 (-1) rfl 10 rfl ?_
  refine gIcN b S2 d20_10 rfl 13 rfl ?_
  refine gAl b S2 d20_13 rfl rfl 14 rfl ?_
  refine gAl b S2 d20_14 rfl rfl 15 rfl ?_
  refine gPfR b S2 (.object ss8) d20_15 (W 188 rfl) Via.refl P3 P2 (W 189 rfl) (W 139 rfl) pf5 rfl rfl P4 (.inl ⟨mI 0 rfl, mI 0 rfl⟩) 18 rfl fun T3 h3 W3 F3 S3 => ?_
  refine gAl b S3 d20_18 rfl rfl 19 rfl ?_
  refine gAl b S3 d20_19 rfl rfl 20 rfl ?_
  refine gGf (host := "") b S3 d20_20 (.inl (W 50 rfl)) Via.refl (P5.other W3 (Or.inl P6)) 23 rfl fun T4 S4 => ?_
  refine gAl b S4 d20_23 rfl rfl 24 rfl ?_
  refine cV b S4 d20_24 (W 84 rfl) (W 85 rfl) (W 87 rfl) (W 86 rfl) (W 16 rfl) (W 88 rfl) (rm10_107 W S4.i (P8.other W3 (Or.inl P21)) (P9.other W3 (Or.inl P21)) (P10.wr W3) (P11.other W3 (Or.inl P22)) P12 (P13.other W3 (Or.inl P22)) (P14.other W3 (Or.inl P22)) (P15.other W3 P23) P16 (P2.wr W3) P17 P18 P19 P20) (P7.wr W3) (by decide) (lenOf pd_8 rfl) rfl [(.ref ra1)] rfl 1 (own_le rfl) rfl 27 rfl fun T5 L5 v5 X5 q5 => ?_
  obtain ⟨rfl, N5q, K5q, KF5q, R5_0, R5_1, R5_2⟩ := q5
  have S5 := S4.call X5 N5q K5q KF5q (allS (.inl (mI 2 rfl)) (allS (.inl (mI 1 rfl)) all0)) (fallS (.inl (mI 3 rfl)) (fallS (.inl (mI 2 rfl)) (fallS (.inl (mI 1 rfl)) fall0))) (allS P17 (allS P12 all0))
  refine gRv ?_
  have f6 := ((P1.other W3 (.inr (sn92 W))).keep K5q (ninS (nS P23) (ninS (nS P22) nin0)))
  refine gPfR b S5 .int d20_27 (W 187 rfl) Via.refl f6 ((P2.wr W3).keep K5q) (W 154 rfl) (W 139 rfl) pf2 rfl rfl P4 (.inl ⟨mI 0 rfl, mI 4 rfl⟩) 30 rfl fun T7 h7 W7 F7 S7 => ?_
  refine gAl b S7 d20_30 rfl rfl 31 rfl ?_
  refine gAl b S7 d20_31 rfl rfl 32 rfl ?_
  have f8 := (((P24.other W3 (Or.inl P26)).keep K5q (ninS P28 (ninS P27 nin0))).other W7 (Or.inl P26))
  refine gGfR b S7 d20_32 (W 134 rfl) Via.refl f8 35 rfl fun T9 S9 => ?_
  have f10 := (((P29.other W3 (.inr (sn93 W))).keep K5q (ninS (nS P23) (ninS (nS P22) nin0))).other W7 (.inr (sn72 W)))
  refine gPfR b S9 .int d20_35 (W 190 rfl) Via.refl f10 (((P2.wr W3).keep K5q).wr W7) (W 156 rfl) (W 139 rfl) pf2 rfl rfl P4 (.inl ⟨mI 0 rfl, mI 5 rfl⟩) 38 rfl fun T11 h11 W11 F11 S11 => ?_
  refine gAl b S11 d20_38 rfl rfl 39 rfl ?_
  refine gIc b S11 d20_39 (-1) rfl 40 rfl ?_
  have f12 := ((((P30.other W3 (.inr (sn94 W))).keep K5q (ninS (nS P23) (ninS (nS P22) nin0))).other W7 (.inr (sn73 W))).other W11 (.inr (sn74 W)))
  have f13 := ((((P2.wr W3).keep K5q).wr W7).wr W11)
  refine gPfR b S11 .int d20_40 (W 191 rfl) Via.refl f12 f13 (W 158 rfl) (W 139 rfl) pf2 rfl rfl P4 (.inl ⟨mI 0 rfl, mI 6 rfl⟩) 43 rfl fun T14 h14 W14 F14 S14 => ?_
  refine gAl b S14 d20_43 rfl rfl 44 rfl ?_
  refine gAl b S14 d20_44 rfl rfl 45 rfl ?_
  have f15 := (((((P31.other W3 (Or.inl P26)).keep K5q (ninS P28 (ninS P27 nin0))).other W7 (Or.inl P26)).other W11 (Or.inl P26)).other W14 (Or.inl P26))
  refine gGfR b S14 d20_45 (W 192 rfl) Via.refl f15 48 rfl fun T16 S16 => ?_
  have f17 := (((((P32.other W3 (.inr (sn95 W))).keep K5q (ninS (nS P23) (ninS (nS P22) nin0))).other W7 (.inr (sn75 W))).other W11 (.inr (sn76 W))).other W14 (.inr (sn77 W)))
  refine gPfR b S16 .int d20_48 (W 193 rfl) Via.refl f17 (f13.wr W14) (W 160 rfl) (W 139 rfl) pf2 rfl rfl P4 (.inl ⟨mI 0 rfl, mI 7 rfl⟩) 51 rfl fun T18 h18 W18 F18 S18 => ?_
  refine gAl b S18 d20_51 rfl rfl 52 rfl ?_
  refine gGfR b S18 d20_52 (W 192 rfl) Via.refl (f15.other W18 (Or.inl P26)) 55 rfl fun T19 S19 => ?_
  refine gIc b S19 d20_55 (-1) rfl 56 rfl ?_
  refine gIcN b S19 d20_56 rfl 59 rfl ?_
  refine gAl b S19 d20_59 rfl rfl 60 rfl ?_
  have f20 := ((((((P5.other W3 (Or.inl P6)).keep K5q (ninS P34 (ninS P33 nin0))).other W7 (Or.inl P6)).other W11 (Or.inl P6)).other W14 (Or.inl P6)).other W18 (Or.inl P6))
  refine gGf (host := "") b S19 d20_60 (.inl (W 50 rfl)) Via.refl f20 63 rfl fun T21 S21 => ?_
  refine gAl b S21 d20_63 rfl rfl 64 rfl ?_
  refine gGfR b S21 d20_64 (W 192 rfl) Via.refl (f15.other W18 (Or.inl P26)) 67 rfl fun T22 S22 => ?_
  have f23 := ((((((P9.other W3 (Or.inl P21)).keep K5q (ninS P19 (ninS P20 nin0))).other W7 (Or.inl P21)).other W11 (Or.inl P21)).other W14 (Or.inl P21)).other W18 (Or.inl P21))
  have f24 := ((((((P10.wr W3).keep K5q).wr W7).wr W11).wr W14).wr W18)
  have f25 := ((((R5_1.other W7 (Or.inl P22)).other W11 (Or.inl P22)).other W14 (Or.inl P22)).other W18 (Or.inl P22))
  have f26 := ((((((P13.other W3 (Or.inl P22)).kf K5q KF5q (nofA P18 (nofB (sn40 W) (nofB (sn0 W) nof0)))).other W7 (Or.inl P22)).other W11 (Or.inl P22)).other W14 (Or.inl P22)).other W18 (Or.inl P22))
  have f27 := ((((R5_0.other W7 P23).other W11 P23).other W14 P23).other W18 P23)
  have f28 := ((((((P7.wr W3).keep K5q).wr W7).wr W11).wr W14).wr W18)
  refine cV b S22 d20_67 (W 306 rfl) (W 270 rfl) (W 272 rfl) (W 271 rfl) (W 16 rfl) (W 273 rfl) (rm30_63 W S22.i f23 f24 f25 f26 f27) f28 (by decide) (lenOf pd_19 rfl) rfl [] rfl 0 (own_le rfl) rfl 70 rfl fun T29 L29 v29 X29 q29 => ?_
  obtain ⟨rfl, N29q, e29⟩ := q29
  have S29 := S22.same X29 N29q e29
  refine gRv ?_
  have f30 := ((((((P35.wr W3).keep K5q).wr W7).wr W11).wr W14).wr W18)
  refine gCc b S29 d20_70 (W 257 rfl) (Ins.self f30) 73 rfl fun T31 S31 => ?_
  refine gAl b S31 d20_73 rfl rfl 74 rfl ?_
  have f32 := (((F7.other W11 (.inr (sn82 W))).other W14 (.inr (sn83 W))).other W18 (.inr (sn84 W)))
  refine gGfR b S31 d20_74 (W 187 rfl) Via.refl f32 77 rfl fun T33 S33 => ?_
  have f34 := ((((((P36.other W3 (Or.inl P37)).keep K5q (ninS P39 (ninS P38 nin0))).other W7 (Or.inl P37)).other W11 (Or.inl P37)).other W14 (Or.inl P37)).other W18 (Or.inl P37))
  refine gPfR b S33 .int d20_77 (W 191 rfl) Via.refl f34 f30 (W 158 rfl) (W 139 rfl) pf2 rfl rfl P40 (.inl ⟨mI 3 rfl, mI 8 rfl⟩) 80 rfl fun T35 h35 W35 F35 S35 => ?_
  refine gAl b S35 d20_80 rfl rfl 81 rfl ?_
  refine gAl b S35 d20_81 rfl rfl 82 rfl ?_
  have f36 := (f32.other W35 (Or.inl (nS P37)))
  refine gGfR b S35 d20_82 (W 187 rfl) Via.refl f36 85 rfl fun T37 S37 => ?_
  have f38 := ((f15.other W18 (Or.inl P26)).other W35 (Or.inl P41))
  have f39 := (((((((P25.wr W3).keep K5q).wr W7).wr W11).wr W14).wr W18).wr W35)
  refine gPfR b S37 .int d20_85 (W 192 rfl) Via.refl f38 f39 (W 75 rfl) (W 68 rfl) pf2 rfl rfl P42 (.inl ⟨mI 4 rfl, mI 9 rfl⟩) 88 rfl fun T40 h40 W40 F40 S40 => ?_
  refine gAl b S40 d20_88 rfl rfl 89 rfl ?_
  refine gDup b S40 d20_89 rfl 90 rfl ?_
  have f41 := ((((((((P43.other W3 (Or.inl P26)).keep K5q (ninS P28 (ninS P27 nin0))).other W7 (Or.inl P26)).other W11 (Or.inl P26)).other W14 (Or.inl P26)).other W18 (Or.inl P26)).other W35 (Or.inl P41)).other W40 (.inr (sn51 W)))
  refine gGfR b S40 d20_90 (W 194 rfl) Via.refl f41 93 rfl fun T42 S42 => ?_
  refine gIc b S42 d20_93 1 rfl 94 rfl ?_
  refine gAdd b S42 d20_94 2 rfl 95 rfl ?_
  refine gPfR b S42 .int d20_95 (W 194 rfl) Via.refl f41 (f39.wr W40) (W 195 rfl) (W 68 rfl) pf2 rfl rfl P42 (.inl ⟨mI 4 rfl, mI 10 rfl⟩) 98 rfl fun T43 h43 W43 F43 S43 => ?_
  have f44 := ((((((((F3.keep K5q (ninS (nS P23) (ninS (nS P22) nin0))).other W7 (.inr (sn96 W))).other W11 (.inr (sn97 W))).other W14 (.inr (sn98 W))).other W18 (.inr (sn99 W))).other W35 (Or.inl (nS P37))).other W40 (Or.inl (nS P26))).other W43 (Or.inl (nS P26)))
  have f45 := (((((((R5_2.other W7 (Or.inl P22)).other W11 (Or.inl P22)).other W14 (Or.inl P22)).other W18 (Or.inl P22)).other W35 (Or.inl (nS P38))).other W40 (Or.inl (nS P27))).other W43 (Or.inl (nS P27)))
  have f46 := (((f25.other W35 (Or.inl (nS P38))).other W40 (Or.inl (nS P27))).other W43 (Or.inl (nS P27)))
  have f47 := (((f27.other W35 (nS P39)).other W40 (nS P28)).other W43 (nS P28))
  have f48 := ((f36.other W40 (Or.inl (nS P26))).other W43 (Or.inl (nS P26)))
  have f49 := (((((F11.other W14 (.inr (sn86 W))).other W18 (.inr (sn87 W))).other W35 (Or.inl (nS P37))).other W40 (Or.inl (nS P26))).other W43 (Or.inl (nS P26)))
  have f50 := ((((F14.other W18 (.inr (sn89 W))).other W35 (Or.inl (nS P37))).other W40 (Or.inl (nS P26))).other W43 (Or.inl (nS P26)))
  have f51 := (((F18.other W35 (Or.inl (nS P37))).other W40 (Or.inl (nS P26))).other W43 (Or.inl (nS P26)))
  have f52 := ((F35.other W40 (Or.inl (nS P41))).other W43 (Or.inl (nS P41)))
  have f53 := (F40.other W43 (.inr (sn100 W)))
  exact gRetV b S43 d20_98 (own_le rfl) (own_le rfl) ⟨rfl, S43.f, S43.k, S43.kf, f44, f45, f46, f47, f48, f49, f50, f51, f52, f53, F43⟩
def Q_rm52_104 (Z : State) (ra1 ra2 ra3 ra4 ra5 ra6 ra7 ra8 ra9 ra11 ra12 ra13 ra14 ra15 : Addr) (ca10 ca16 : ClassId) (h0 : Heap) (n0 : Nat) (v : Option Value) (h : Heap) (L : List Loc) : Prop := v = none ∧ Fr n0 L ∧ Keep h0 h [ra9, ra15, ra13, ra12, ra2] ∧ KeepF h0 h [(ra9, some (sl12 Z)), (ra9, some (sl9 Z)), (ra15, some (sl6 Z)), (ra2, some (sl1 Z)), (ra2, some (sl6 Z)), (ra2, some (sl2 Z)), (ra2, some (sl4 Z)), (ra13, none), (ra12, some (sl17 Z)), (ra12, some (sl23 Z)), (ra2, some (sl3 Z))] ∧ Fld Z h ra9 ss1 ss3 "I" (.int (2 : Int32)) ∧ Fld Z h ra9 ss1 ss13 "I" (.int (2 : Int32)) ∧ Fld Z h ra15 ss0 ss9 "I" (.int (2 : Int32)) ∧ Fld Z h ra2 ss0 ss11 "I" (.int (1 : Int32)) ∧ Fld Z h ra2 ss0 ss9 "I" (.int (-1 : Int32)) ∧ Fld Z h ra2 ss0 ss14 "I" (.int (2 : Int32)) ∧ Fld Z h ra2 ss0 ss17 "I" (.int (2 : Int32)) ∧ Arv Z h ra13 ca16 (.object ss4) (10 : Int32) [(.ref ra14), (.ref ra15), (.ref ra2), .null, .null, .null, .null, .null, .null, .null] .null ∧ Fld Z h ra12 ss2 ss3 "I" (.int (3 : Int32)) ∧ Fld Z h ra12 ss5 ss6 "I" (.int (3 : Int32)) ∧ Fld Z h ra2 ss0 ss15 ss16 (.ref ra1)
theorem rm52_104 (W : Wd a0 Z) (I0 : IO Z n0 h0) {ra1 ra2 ra3 ra4 ra5 ra6 ra7 ra8 ra9 ra11 ra12 ra13 ra14 ra15 : Addr} {ca10 ca16 : ClassId} (P0 : Exa Z h0 ra3 ss1) (P1 : Fld Z h0 ra3 ss1 "kind" ss27 (.ref ra4)) (P2 : Sta Z Z.heap ss32 "A" ss33 (.ref ra4)) (P3 : Fld Z h0 ra3 ss1 ss21 "I" (.int (1 : Int32))) (P4 : Fld Z h0 ra3 ss1 ss3 "I" (.int (1 : Int32))) (P5 : Fld Z h0 ra3 ss1 ss15 ss16 (.ref ra1)) (P6 : Fld Z h0 ra1 ss8 ss22 ss18 (.ref ra5)) (P7 : Fld Z h0 ra3 ss1 ss11 "I" (.int (2 : Int32))) (P8 : Exa Z h0 ra5 ss10) (P9 : Fld Z h0 ra5 ss10 ss19 ss20 (.ref ra6)) (P10 : Exa Z h0 ra6 ss2) (P11 : Fld Z h0 ra6 ss2 ss3 "I" (.int (3 : Int32))) (P12 : Fld Z h0 ra6 ss2 ss12 ss7 (.ref ra7)) (P13 : Arv Z h0 ra7 ca10 (.object ss4) (10 : Int32) [(.ref ra8), (.ref ra3), (.ref ra9), .null, .null, .null, .null, .null, .null, .null] .null) (P14 : Exa Z h0 ra9 ss1) (P15 : Fld Z h0 ra9 ss1 ss15 ss16 (.ref ra1)) (P16 : Fld Z h0 ra2 ss0 ss17 "I" (.int (-1 : Int32))) (P17 : Exa Z h0 ra2 ss0) (P18 : Fld Z h0 ra2 ss0 ss15 ss16 .null) (P19 : n0 ≤ ra2) (P20 : Fld Z h0 ra1 ss8 ss31 ss18 (.ref ra11)) (P21 : ra1 ≠ ra2) (P22 : Exa Z h0 ra11 ss10) (P23 : Fld Z h0 ra11 ss10 ss26 "I" (.int (0 : Int32))) (P24 : Fld Z h0 ra11 ss10 ss19 ss20 (.ref ra12)) (P25 : Exa Z h0 ra12 ss2) (P26 : Fld Z h0 ra12 ss5 ss6 "I" (.int (2 : Int32))) (P27 : n0 ≤ ra12) (P28 : Fld Z h0 ra12 ss2 ss12 ss7 (.ref ra13)) (P29 : Fld Z h0 ra12 ss2 ss3 "I" (.int (2 : Int32))) (P30 : Arv Z h0 ra13 ca16 (.object ss4) (10 : Int32) [(.ref ra14), (.ref ra15), .null, .null, .null, .null, .null, .null, .null, .null] .null) (P31 : Ovr Z ca16 ss4) (P32 : n0 ≤ ra13) (P33 : ra12 ≠ ra13) (P34 : ra11 ≠ ra13) (P35 : ra11 ≠ ra12) (P36 : ra11 ≠ ra2) (P37 : ra12 ≠ ra2) (P38 : ra13 ≠ ra2) (P39 : Fld Z h0 ra9 ss1 ss17 "I" (.int (2 : Int32))) (P40 : ra9 ≠ ra2) (P41 : ra9 ≠ ra12) (P42 : ra9 ≠ ra13) (P43 : Fld Z h0 ra2 ss0 ss14 "I" (.int (-1 : Int32))) (P44 : Fld Z h0 ra2 ss0 ss9 "I" (.int (-1 : Int32))) (P45 : Fld Z h0 ra9 ss1 ss13 "I" (.int (1 : Int32))) (P46 : Fld Z h0 ra2 ss0 ss11 "I" (.int (-1 : Int32))) (P47 : ra1 ≠ ra12) (P48 : ra1 ≠ ra13) (P49 : Exa Z h0 ra15 ss0) (P50 : Fld Z h0 ra15 ss0 ss9 "I" (.int (-1 : Int32))) (P51 : ra15 ≠ ra2) (P52 : ra15 ≠ ra12) (P53 : ra15 ≠ ra13) (P54 : n0 ≤ ra15) (P55 : ra9 ≠ ra15) (P56 : n0 ≤ ra9) (P57 : Fld Z h0 ra9 ss1 ss3 "I" (.int (1 : Int32))) : OwnM l yy13 (.code yy13 k52_ 7 none) ⟨6, 0, 0, 78⟩ #[(.ref ra1), (.ref ra2), (.ref ra3)] Z h0 (Q_rm52_104 Z ra1 ra2 ra3 ra4 ra5 ra6 ra7 ra8 ra9 ra11 ra12 ra13 ra14 ra15 ca10 ca16 h0 n0) := by
  refine own_open [ra9, ra15, ra13, ra12, ra2] [(ra9, some (sl12 Z)), (ra9, some (sl9 Z)), (ra15, some (sl6 Z)), (ra2, some (sl1 Z)), (ra2, some (sl6 Z)), (ra2, some (sl2 Z)), (ra2, some (sl4 Z)), (ra13, none), (ra12, some (sl17 Z)), (ra12, some (sl23 Z)), (ra2, some (sl3 Z))] #[.val (.ref ra1), .val (.ref ra2), .val (.ref ra3), .unset, .unset, .unset, .unset] (plainFor_of_name pn_7) I0 ?_
  intro p e s m below meth c T b S0
  refine gAl b S0 d52_0 rfl rfl 1 rfl ?_
  refine cV b S0 d52_1 (W 316 rfl) (W 317 rfl) (W 319 rfl) (W 318 rfl) (W 69 rfl) (W 320 rfl) (rm38_44 W S0.i P1) P0 (by decide) (lenOf pd_17 rfl) rfl [] rfl 0 (own_le rfl) rfl 4 rfl fun T1 L1 v1 X1 q1 => ?_
  obtain ⟨rfl, N1q, e1⟩ := q1
  have S1 := S0.same X1 N1q e1
  refine gRv ?_
  refine gGs b S1 d52_4 (W 321 rfl) P2 7 rfl fun T2 S2 => ?_
  refine gAc b S2 d52_7 rfl rfl true (decide_eq_true rfl) 10 (by decide) (by decide) ?_
  refine gIc b S2 d52_10 1 rfl 11 rfl ?_
  refine gGoto b S2 d52_11 15 (by decide) rfl ?_
  refine gIs b S2 d52_15 #[.val (.ref ra1), .val (.ref ra2), .val (.ref ra3), .val (.int (1 : Int32)), .unset, .unset, .unset] rfl 16 rfl ?_
  refine gAl b S2 d52_16 rfl rfl 17 rfl ?_
  refine cV b S2 d52_17 (W 335 rfl) (W 336 rfl) (W 338 rfl) (W 337 rfl) (W 69 rfl) (W 339 rfl) (rm41_48 W S2.i P3) P0 (by decide) (lenOf pd_7 rfl) rfl [] rfl 0 (own_le rfl) rfl 20 rfl fun T3 L3 v3 X3 q3 => ?_
  obtain ⟨rfl, N3q, e3⟩ := q3
  have S3 := S2.same X3 N3q e3
  refine gRv ?_
  refine gIfY b S3 d52_20 rfl 45 (by decide) rfl ?_
  refine gAl b S3 d52_45 rfl rfl 46 rfl ?_
  refine cV b S3 d52_46 (W 393 rfl) (W 394 rfl) (W 396 rfl) (W 395 rfl) (W 69 rfl) (W 397 rfl) (rm49_94 W S3.i P3 P4) P0 (by decide) (lenOf pd_11 rfl) rfl [] rfl 0 (own_le rfl) rfl 49 rfl fun T4 L4 v4 X4 q4 => ?_
  obtain ⟨rfl, N4q, e4⟩ := q4
  have S4 := S3.same X4 N4q e4
  refine gRv ?_
  refine gIfN b S4 d52_49 rfl 52 rfl ?_
  refine gAl b S4 d52_52 rfl rfl 53 rfl ?_
  refine gAl b S4 d52_53 rfl rfl 54 rfl ?_
  refine cS b S4 d52_54 (W 413 rfl) (W 414 rfl) (W 2 rfl) (W 415 rfl) (rm53_105 W S4.i P0 P1 P2 P5 P6 P7 P8 P9 P10 P11 P12 P13 P14) (by decide) (lenOf pd_31 rfl) rfl [(.ref ra2)] rfl 1 (own_le rfl) rfl 57 rfl fun T5 L5 v5 X5 q5 => ?_
  obtain ⟨rfl, N5q, e5⟩ := q5
  have S5 := S4.same X5 N5q e5
  refine gRv ?_
  refine cSU (owner := ss8) b S5 d52_57 (W 182 rfl) (W 183 rfl) (W 184 rfl) (W 9 rfl) (W 185 rfl) (rm20_106 W S5.i P15 P16 P17 P18 P19 P20 P21 P22 P23 P24 P25 P26 P27 P28 P29 P30 P31 P32 P33 P34 P35 P36 P37 P38 P39 P14 P40 P41 P42 P43 P44 P45 P46 P47 P48 P49 P50 P51 P52 P53 P54 P55 P56 P57) (by decide) (lenOf pd_12 rfl) rfl [] rfl 0 (own_le rfl) rfl 60 rfl fun T6 L6 v6 X6 q6 => ?_
  obtain ⟨rfl, N6q, K6q, KF6q, R6_0, R6_1, R6_2, R6_3, R6_4, R6_5, R6_6, R6_7, R6_8, R6_9, R6_10⟩ := q6
  have S6 := S5.call X6 N6q K6q KF6q (allS (.inl (mI 4 rfl)) (allS (.inl (mI 3 rfl)) (allS (.inl (mI 2 rfl)) (allS (.inl (mI 1 rfl)) (allS (.inl (mI 0 rfl)) all0))))) (fallS (.inl (mI 10 rfl)) (fallS (.inl (mI 9 rfl)) (fallS (.inl (mI 8 rfl)) (fallS (.inl (mI 7 rfl)) (fallS (.inl (mI 6 rfl)) (fallS (.inl (mI 5 rfl)) (fallS (.inl (mI 4 rfl)) (fallS (.inl (mI 3 rfl)) (fallS (.inl (mI 2 rfl)) (fallS (.inl (mI 1 rfl)) (fallS (.inl (mI 0 rfl)) fall0))))))))))) (allS P19 (allS P27 (allS P32 (allS P54 (allS P56 all0)))))
  refine gRn ?_
  refine gGoto b S6 d52_60 144 (by decide) rfl ?_
  exact gRetV b S6 d52_144 (own_le rfl) (own_le rfl) ⟨rfl, S6.f, S6.k, S6.kf, R6_10, R6_9, R6_8, R6_7, R6_6, R6_5, R6_4, R6_3, R6_2, R6_1, R6_0⟩
def Q_rm39_92 (Z : State) (ra1 ra2 ra3 ra4 ra5 ra6 ra8 ra9 ra10 ra11 ra12 ra14 ra15 ra16 ra17 ra18 ra20 : Addr) (ca7 ca13 ca19 : ClassId) (h0 : Heap) (n0 : Nat) (v : Option Value) (h : Heap) (L : List Loc) : Prop := v = some (.ref ra20) ∧ Fr n0 L ∧ Keep h0 h [ra2, ra15, ra16, ra18, ra12] ∧ KeepF h0 h [(ra2, some (sl3 Z)), (ra15, some (sl23 Z)), (ra15, some (sl17 Z)), (ra16, none), (ra2, some (sl4 Z)), (ra2, some (sl2 Z)), (ra2, some (sl6 Z)), (ra2, some (sl1 Z)), (ra18, some (sl6 Z)), (ra12, some (sl9 Z)), (ra12, some (sl12 Z))] ∧ Fld Z h ra2 ss0 ss15 ss16 (.ref ra1) ∧ Fld Z h ra15 ss5 ss6 "I" (.int (3 : Int32)) ∧ Fld Z h ra15 ss2 ss3 "I" (.int (3 : Int32)) ∧ Arv Z h ra16 ca19 (.object ss4) (10 : Int32) [(.ref ra17), (.ref ra18), (.ref ra2), .null, .null, .null, .null, .null, .null, .null] .null ∧ Fld Z h ra2 ss0 ss17 "I" (.int (2 : Int32)) ∧ Fld Z h ra2 ss0 ss14 "I" (.int (2 : Int32)) ∧ Fld Z h ra2 ss0 ss9 "I" (.int (-1 : Int32)) ∧ Fld Z h ra2 ss0 ss11 "I" (.int (1 : Int32)) ∧ Fld Z h ra18 ss0 ss9 "I" (.int (2 : Int32)) ∧ Fld Z h ra12 ss1 ss13 "I" (.int (2 : Int32)) ∧ Fld Z h ra12 ss1 ss3 "I" (.int (2 : Int32))
theorem rm39_92 (W : Wd a0 Z) (I0 : IO Z n0 h0) {ra1 ra2 ra3 ra4 ra5 ra6 ra8 ra9 ra10 ra11 ra12 ra14 ra15 ra16 ra17 ra18 ra20 : Addr} {ca7 ca13 ca19 : ClassId} (P0 : Exa Z h0 ra4 ss2) (P1 : Fld Z h0 ra4 ss5 ss6 "I" (.int (1 : Int32))) (P2 : Fld Z h0 ra4 ss2 ss3 "I" (.int (1 : Int32))) (P3 : Fld Z h0 ra4 ss2 ss12 ss7 (.ref ra5)) (P4 : Arv Z h0 ra5 ca7 (.object ss4) (10 : Int32) [(.ref ra6), .null, .null, .null, .null, .null, .null, .null, .null, .null] .null) (P5 : Exa Z h0 ra6 ss1) (P6 : Fld Z h0 ra6 ss1 "kind" ss27 (.ref ra3)) (P7 : Sta Z Z.heap ss32 "A" ss33 (.ref ra3)) (P8 : Exa Z h0 ra1 ss28) (P9 : Fld Z h0 ra1 ss8 ss22 ss18 (.ref ra8)) (P10 : Fld Z h0 ra1 ss8 ss24 "I" (.int (1 : Int32))) (P11 : Exa Z h0 ra8 ss10) (P12 : Fld Z h0 ra8 ss10 ss19 ss20 (.ref ra9)) (P13 : Exa Z h0 ra9 ss2) (P14 : Fld Z h0 ra9 ss2 ss3 "I" (.int (3 : Int32))) (P15 : Fld Z h0 ra9 ss2 ss12 ss7 (.ref ra10)) (P16 : Arv Z h0 ra10 ca13 (.object ss4) (10 : Int32) [(.ref ra11), (.ref ra6), (.ref ra12), .null, .null, .null, .null, .null, .null, .null] .null) (P17 : Fld Z h0 ra6 ss1 ss21 "I" (.int (1 : Int32))) (P18 : Fld Z h0 ra6 ss1 ss3 "I" (.int (1 : Int32))) (P19 : Fld Z h0 ra6 ss1 ss15 ss16 (.ref ra1)) (P20 : Fld Z h0 ra6 ss1 ss11 "I" (.int (2 : Int32))) (P21 : Exa Z h0 ra12 ss1) (P22 : Fld Z h0 ra12 ss1 ss15 ss16 (.ref ra1)) (P23 : Fld Z h0 ra12 ss1 ss11 "I" (.int (-1 : Int32))) (P24 : Fld Z h0 ra1 ss28 ss34 ss35 (.ref ra11)) (P25 : Exa Z h0 ra11 ss1) (P26 : Fld Z h0 ra11 ss1 ss21 "I" (.int (0 : Int32))) (P27 : Fld Z h0 ra2 ss0 ss17 "I" (.int (-1 : Int32))) (P28 : Exa Z h0 ra2 ss0) (P29 : Fld Z h0 ra2 ss0 ss15 ss16 .null) (P30 : n0 ≤ ra2) (P31 : Fld Z h0 ra1 ss8 ss31 ss18 (.ref ra14)) (P32 : ra1 ≠ ra2) (P33 : Exa Z h0 ra14 ss10) (P34 : Fld Z h0 ra14 ss10 ss26 "I" (.int (0 : Int32))) (P35 : Fld Z h0 ra14 ss10 ss19 ss20 (.ref ra15)) (P36 : Exa Z h0 ra15 ss2) (P37 : Fld Z h0 ra15 ss5 ss6 "I" (.int (2 : Int32))) (P38 : n0 ≤ ra15) (P39 : Fld Z h0 ra15 ss2 ss12 ss7 (.ref ra16)) (P40 : Fld Z h0 ra15 ss2 ss3 "I" (.int (2 : Int32))) (P41 : Arv Z h0 ra16 ca19 (.object ss4) (10 : Int32) [(.ref ra17), (.ref ra18), .null, .null, .null, .null, .null, .null, .null, .null] .null) (P42 : Ovr Z ca19 ss4) (P43 : n0 ≤ ra16) (P44 : ra15 ≠ ra16) (P45 : ra14 ≠ ra16) (P46 : ra14 ≠ ra15) (P47 : ra14 ≠ ra2) (P48 : ra15 ≠ ra2) (P49 : ra16 ≠ ra2) (P50 : Fld Z h0 ra12 ss1 ss17 "I" (.int (2 : Int32))) (P51 : ra12 ≠ ra2) (P52 : ra12 ≠ ra15) (P53 : ra12 ≠ ra16) (P54 : Fld Z h0 ra2 ss0 ss14 "I" (.int (-1 : Int32))) (P55 : Fld Z h0 ra2 ss0 ss9 "I" (.int (-1 : Int32))) (P56 : Fld Z h0 ra12 ss1 ss13 "I" (.int (1 : Int32))) (P57 : Fld Z h0 ra2 ss0 ss11 "I" (.int (-1 : Int32))) (P58 : ra1 ≠ ra15) (P59 : ra1 ≠ ra16) (P60 : Exa Z h0 ra18 ss0) (P61 : Fld Z h0 ra18 ss0 ss9 "I" (.int (-1 : Int32))) (P62 : ra18 ≠ ra2) (P63 : ra18 ≠ ra15) (P64 : ra18 ≠ ra16) (P65 : n0 ≤ ra18) (P66 : ra12 ≠ ra18) (P67 : n0 ≤ ra12) (P68 : Fld Z h0 ra12 ss1 ss3 "I" (.int (1 : Int32))) (P69 : Sta Z Z.heap ss29 "APPLIED" ss36 (.ref ra20)) : OwnM l yy10 (.code yy10 k39_ 11 (some (.object ss29))) ⟨7, 1, 4, 96⟩ #[(.ref ra1), (.ref ra2), (.ref ra3), (.ref ra4)] Z h0 (Q_rm39_92 Z ra1 ra2 ra3 ra4 ra5 ra6 ra8 ra9 ra10 ra11 ra12 ra14 ra15 ra16 ra17 ra18 ra20 ca7 ca13 ca19 h0 n0) := by
  refine own_open [ra2, ra15, ra16, ra18, ra12] [(ra2, some (sl3 Z)), (ra15, some (sl23 Z)), (ra15, some (sl17 Z)), (ra16, none), (ra2, some (sl4 Z)), (ra2, some (sl2 Z)), (ra2, some (sl6 Z)), (ra2, some (sl1 Z)), (ra18, some (sl6 Z)), (ra12, some (sl9 Z)), (ra12, some (sl12 Z))] #[.val (.ref ra1), .val (.ref ra2), .val (.ref ra3), .val (.ref ra4), .unset, .unset, .unset, .unset, .unset, .unset, .unset] (plainFor_of_name pn_7) I0 ?_
  intro p e s m below meth c T b S0
  refine gIc b S0 d39_0 0 rfl 1 rfl ?_
  refine gIsW b S0 d39_1 #[.val (.ref ra1), .val (.ref ra2), .val (.ref ra3), .val (.ref ra4), .val (.int (0 : Int32)), .unset, .unset, .unset, .unset, .unset, .unset] rfl 3 rfl ?_
  refine gAl b S0 d39_3 rfl rfl 4 rfl ?_
  refine cI (xi := yy61) b S0 d39_4 (W 312 rfl) (W 209 rfl) (fun hZ => mvT hZ (W 210 rfl)) (W 211 rfl) (W 212 rfl) (W 213 rfl) (W 214 rfl) (W 98 rfl) (W 23 rfl) (W 215 rfl) (rm23_27 W S0.i P1) P0 (by decide) (lenOf pd_16 rfl) rfl [] rfl 0 (own_le rfl) rfl 9 rfl fun T1 L1 v1 X1 q1 => ?_
  obtain ⟨nw1_1, rfl, N1q, K1q, KF1q, z1_nw1, R1_0, R1_1, R1_2, R1_3, R1_4⟩ := q1
  have S1 := S0.call X1 N1q K1q KF1q all0 fall0 all0
  refine gRv ?_
  refine gAsW b S1 d39_9 rfl #[.val (.ref ra1), .val (.ref ra2), .val (.ref ra3), .val (.ref ra4), .val (.int (0 : Int32)), .val (.ref nw1_1), .unset, .unset, .unset, .unset, .unset] rfl 11 rfl ?_
  refine gAlW b S1 d39_11 rfl rfl 13 rfl ?_
  refine cI (xi := yy56) b S1 d39_13 (W 313 rfl) (W 232 rfl) (fun hZ => mvT hZ (W 233 rfl)) (W 234 rfl) (W 235 rfl) (W 236 rfl) (W 237 rfl) (W 238 rfl) (W 218 rfl) (W 239 rfl) (rm25_29 W S1.i R1_1 R1_2 (P2.keep K1q nin0)) R1_0 (by decide) (lenOf pd_11 rfl) rfl [] rfl 0 (own_le rfl) rfl 18 rfl fun T2 L2 v2 X2 q2 => ?_
  obtain ⟨rfl, N2q, e2⟩ := q2
  have S2 := S1.same X2 N2q e2
  refine gRv ?_
  refine gIfN b S2 d39_18 rfl 21 rfl ?_
  refine gAlW b S2 d39_21 rfl rfl 23 rfl ?_
  have x3 := (nL (tL P4.lt z1_nw1))
  refine cI (xi := yy57) b S2 d39_23 (W 314 rfl) (W 244 rfl) (fun hZ => mvT hZ (W 245 rfl)) (W 246 rfl) (W 247 rfl) (W 248 rfl) (W 249 rfl) (W 238 rfl) (W 218 rfl) (W 250 rfl) (rm26_30 W S2.i R1_0 R1_2 (P1.keep K1q nin0) R1_4 R1_1 (P2.keep K1q nin0) (P3.keep K1q nin0) (P4.keep K1q nin0) (S0.ge z1_nw1) R1_3 x3) R1_0 (by decide) (lenOf pd_17 rfl) rfl [] rfl 0 (own_le rfl) rfl 28 rfl fun T4 L4 v4 X4 q4 => ?_
  obtain ⟨rfl, N4q, K4q, KF4q, R4_0, R4_1⟩ := q4
  have S4 := S2.call X4 N4q K4q KF4q (allS (.inr (S0.sz z1_nw1)) all0) (fallS (.inr (.inr (S0.sz z1_nw1))) (fallS (.inr (.inr (S0.sz z1_nw1))) fall0)) (allS (S0.ge z1_nw1) all0)
  refine gRv ?_
  refine gCc b S4 d39_28 (W 315 rfl) (Ins.self ((P5.keep K1q).keep K4q)) 31 rfl fun T5 S5 => ?_
  refine gAsW b S5 d39_31 rfl #[.val (.ref ra1), .val (.ref ra2), .val (.ref ra3), .val (.ref ra4), .val (.int (0 : Int32)), .val (.ref nw1_1), .val (.ref ra6), .unset, .unset, .unset, .unset] rfl 33 rfl ?_
  refine gIlW b S5 d39_33 rfl 35 rfl ?_
  refine gAlW b S5 d39_35 rfl rfl 37 rfl ?_
  have x6 := (nL (tL P5.lt z1_nw1))
  have f7 := ((P6.keep K1q nin0).keep K4q (ninS x6 nin0))
  refine cV b S5 d39_37 (W 316 rfl) (W 317 rfl) (W 319 rfl) (W 318 rfl) (W 69 rfl) (W 320 rfl) (rm38_44 W S5.i f7) ((P5.keep K1q).keep K4q) (by decide) (lenOf pd_17 rfl) rfl [(.int (0 : Int32))] rfl 1 (own_le rfl) rfl 40 rfl fun T8 L8 v8 X8 q8 => ?_
  obtain ⟨rfl, N8q, e8⟩ := q8
  have S8 := S5.same X8 N8q e8
  refine gRv ?_
  refine gAl b S8 d39_40 rfl rfl 41 rfl ?_
  refine gAc b S8 d39_41 rfl rfl true (decide_eq_true rfl) 44 (by decide) (by decide) ?_
  refine gIc b S8 d39_44 1 rfl 45 rfl ?_
  refine gGoto b S8 d39_45 49 (by decide) rfl ?_
  refine gAdd b S8 d39_49 1 rfl 50 rfl ?_
  refine gIsW b S8 d39_50 #[.val (.ref ra1), .val (.ref ra2), .val (.ref ra3), .val (.ref ra4), .val (.int (1 : Int32)), .val (.ref nw1_1), .val (.ref ra6), .unset, .unset, .unset, .unset] rfl 52 rfl ?_
  refine gGoto b S8 d39_52 11 (by decide) rfl ?_
  refine gAlW b S8 d39_11 rfl rfl 13 rfl ?_
  have f9 := (R1_2.kf K4q KF4q (nofB (sn119 W) (nofB (sn103 W) nof0)))
  have x10 := (nL (tL P0.lt z1_nw1))
  have f11 := ((P2.keep K1q nin0).keep K4q (ninS x10 nin0))
  refine cI (xi := yy56) b S8 d39_13 (W 313 rfl) (W 232 rfl) (fun hZ => mvT hZ (W 233 rfl)) (W 234 rfl) (W 235 rfl) (W 236 rfl) (W 237 rfl) (W 238 rfl) (W 218 rfl) (W 239 rfl) (rm25_42 W S8.i R4_0 f9 f11) (R1_0.keep K4q) (by decide) (lenOf pd_11 rfl) rfl [] rfl 0 (own_le rfl) rfl 18 rfl fun T12 L12 v12 X12 q12 => ?_
  obtain ⟨rfl, N12q, e12⟩ := q12
  have S12 := S8.same X12 N12q e12
  refine gRv ?_
  refine gIfY b S12 d39_18 rfl 55 (by decide) rfl ?_
  refine gAl b S12 d39_55 rfl rfl 56 rfl ?_
  refine gGs b S12 d39_56 (W 321 rfl) P7 59 rfl fun T13 S13 => ?_
  refine gAc b S13 d39_59 rfl rfl true (decide_eq_true rfl) 62 (by decide) (by decide) ?_
  refine gAl b S13 d39_62 rfl rfl 63 rfl ?_
  have x14 := (nL (tL P8.lt z1_nw1))
  have f15 := ((P9.keep K1q nin0).keep K4q (ninS x14 nin0))
  have f16 := ((P10.keep K1q nin0).keep K4q (ninS x14 nin0))
  have x17 := (nL (tL P11.lt z1_nw1))
  have f18 := ((P12.keep K1q nin0).keep K4q (ninS x17 nin0))
  have x19 := (nL (tL P13.lt z1_nw1))
  have f20 := ((P14.keep K1q nin0).keep K4q (ninS x19 nin0))
  have f21 := ((P15.keep K1q nin0).keep K4q (ninS x19 nin0))
  have x22 := (nL (tL P16.lt z1_nw1))
  have f23 := ((P16.keep K1q nin0).keep K4q (ninS x22 nin0))
  refine cU (owner := ss8) (x := yy6) b S13 d39_63 (W 329 rfl) (W 330 rfl) (W 331 rfl) (W 333 rfl) (W 332 rfl) (W 9 rfl) (W 334 rfl) (rm40_93 W S13.i f15 f16 ((P11.keep K1q).keep K4q) f18 ((P13.keep K1q).keep K4q) f20 f21 f23 ((P5.keep K1q).keep K4q)) ((P8.keep K1q).keep K4q) (by decide) (lenOf pd_20 rfl) rfl [] rfl 0 (own_le rfl) rfl 66 rfl fun T24 L24 v24 X24 q24 => ?_
  obtain ⟨rfl, N24q, e24⟩ := q24
  have S24 := S13.same X24 N24q e24
  refine gRv ?_
  refine gGoto b S24 d39_66 73 (by decide) rfl ?_
  refine gAsW b S24 d39_73 rfl #[.val (.ref ra1), .val (.ref ra2), .val (.ref ra3), .val (.ref ra4), .val (.int (1 : Int32)), .val (.ref ra6), .val (.ref ra6), .unset, .unset, .unset, .unset] rfl 75 rfl ?_
  refine gNull b S24 d39_75 76 rfl ?_
  refine gAsW b S24 d39_76 rfl #[.val (.ref ra1), .val (.ref ra2), .val (.ref ra3), .val (.ref ra4), .val (.int (1 : Int32)), .val (.ref ra6), .val .null, .unset, .unset, .unset, .unset] rfl 78 rfl ?_
  refine gIc b S24 d39_78 0 rfl 79 rfl ?_
  refine gIsW b S24 d39_79 #[.val (.ref ra1), .val (.ref ra2), .val (.ref ra3), .val (.ref ra4), .val (.int (1 : Int32)), .val (.ref ra6), .val .null, .val (.int (0 : Int32)), .unset, .unset, .unset] rfl 81 rfl ?_
  refine gAlW b S24 d39_81 rfl rfl 83 rfl ?_
  refine gNuN b S24 d39_83 86 rfl ?_
  refine gAlW b S24 d39_86 rfl rfl 88 rfl ?_
  have f25 := ((P17.keep K1q nin0).keep K4q (ninS x6 nin0))
  have f26 := ((P18.keep K1q nin0).keep K4q (ninS x6 nin0))
  refine cV b S24 d39_88 (W 393 rfl) (W 394 rfl) (W 396 rfl) (W 395 rfl) (W 69 rfl) (W 397 rfl) (rm49_94 W S24.i f25 f26) ((P5.keep K1q).keep K4q) (by decide) (lenOf pd_11 rfl) rfl [] rfl 0 (own_le rfl) rfl 91 rfl fun T27 L27 v27 X27 q27 => ?_
  obtain ⟨rfl, N27q, e27⟩ := q27
  have S27 := S24.same X27 N27q e27
  refine gRv ?_
  refine gIfN b S27 d39_91 rfl 94 rfl ?_
  refine gInc b S27 d39_94 rfl #[.val (.ref ra1), .val (.ref ra2), .val (.ref ra3), .val (.ref ra4), .val (.int (1 : Int32)), .val (.ref ra6), .val .null, .val (.int (1 : Int32)), .unset, .unset, .unset] rfl 97 rfl ?_
  refine gAlW b S27 d39_97 rfl rfl 99 rfl ?_
  refine gAsW b S27 d39_99 rfl #[.val (.ref ra1), .val (.ref ra2), .val (.ref ra3), .val (.ref ra4), .val (.int (1 : Int32)), .val (.ref ra6), .val (.ref ra6), .val (.int (1 : Int32)), .unset, .unset, .unset] rfl 101 rfl ?_
  refine gAlW b S27 d39_101 rfl rfl 103 rfl ?_
  have f28 := ((P19.keep K1q nin0).keep K4q (ninS x6 nin0))
  have f29 := ((P20.keep K1q nin0).keep K4q (ninS x6 nin0))
  have x30 := (nL (tL P21.lt z1_nw1))
  have f31 := ((P22.keep K1q nin0).keep K4q (ninS x30 nin0))
  have f32 := ((P23.keep K1q nin0).keep K4q (ninS x30 nin0))
  refine cS b S27 d39_103 (W 399 rfl) (W 400 rfl) (W 2 rfl) (W 401 rfl) (rm50_95 W S27.i ((P5.keep K1q).keep K4q) f7 P7 f28 f15 f29 ((P11.keep K1q).keep K4q) f18 ((P13.keep K1q).keep K4q) f20 f21 f23 ((P21.keep K1q).keep K4q) f31 f32) (by decide) (lenOf pd_31 rfl) rfl [] rfl 0 (own_le rfl) rfl 106 rfl fun T33 L33 v33 X33 q33 => ?_
  obtain ⟨rfl, N33q, e33⟩ := q33
  have S33 := S27.same X33 N33q e33
  refine gRv ?_
  refine gAsW b S33 d39_106 rfl #[.val (.ref ra1), .val (.ref ra2), .val (.ref ra3), .val (.ref ra4), .val (.int (1 : Int32)), .val .null, .val (.ref ra6), .val (.int (1 : Int32)), .unset, .unset, .unset] rfl 108 rfl ?_
  refine gGoto b S33 d39_108 81 (by decide) rfl ?_
  refine gAlW b S33 d39_81 rfl rfl 83 rfl ?_
  refine gNuY b S33 d39_83 111 (by decide) rfl ?_
  refine gAl b S33 d39_111 rfl rfl 112 rfl ?_
  have f34 := ((P24.keep K1q nin0).keep K4q (ninS x14 nin0))
  refine gGf (host := "") b S33 d39_112 (.inl (W 136 rfl)) Via.refl f34 115 rfl fun T35 S35 => ?_
  have x36 := (nL (tL P25.lt z1_nw1))
  have f37 := ((P26.keep K1q nin0).keep K4q (ninS x36 nin0))
  refine cV b S35 d39_115 (W 335 rfl) (W 336 rfl) (W 338 rfl) (W 337 rfl) (W 69 rfl) (W 339 rfl) (rm41_103 W S35.i f37) ((P25.keep K1q).keep K4q) (by decide) (lenOf pd_7 rfl) rfl [] rfl 0 (own_le rfl) rfl 118 rfl fun T38 L38 v38 X38 q38 => ?_
  obtain ⟨rfl, N38q, e38⟩ := q38
  have S38 := S35.same X38 N38q e38
  refine gRv ?_
  refine gIfY b S38 d39_118 rfl 180 (by decide) rfl ?_
  refine gAlW b S38 d39_180 rfl rfl 182 rfl ?_
  refine gNnN b S38 d39_182 185 rfl ?_
  refine gAl b S38 d39_185 rfl rfl 186 rfl ?_
  refine gAl b S38 d39_186 rfl rfl 187 rfl ?_
  refine gAlW b S38 d39_187 rfl rfl 189 rfl ?_
  have x39 := (nL (tL P27.lt z1_nw1))
  have f40 := ((P27.keep K1q nin0).keep K4q (ninS x39 nin0))
  have f41 := ((P29.keep K1q nin0).keep K4q (ninS x39 nin0))
  have f42 := ((P31.keep K1q nin0).keep K4q (ninS x14 nin0))
  have x43 := (nL (tL P33.lt z1_nw1))
  have f44 := ((P34.keep K1q nin0).keep K4q (ninS x43 nin0))
  have f45 := ((P35.keep K1q nin0).keep K4q (ninS x43 nin0))
  have x46 := (nL (tL P36.lt z1_nw1))
  have f47 := ((P37.keep K1q nin0).keep K4q (ninS x46 nin0))
  have f48 := ((P39.keep K1q nin0).keep K4q (ninS x46 nin0))
  have f49 := ((P40.keep K1q nin0).keep K4q (ninS x46 nin0))
  have x50 := (nL (tL P41.lt z1_nw1))
  have f51 := ((P41.keep K1q nin0).keep K4q (ninS x50 nin0))
  have f52 := ((P50.keep K1q nin0).keep K4q (ninS x30 nin0))
  have f53 := ((P54.keep K1q nin0).keep K4q (ninS x39 nin0))
  have f54 := ((P55.keep K1q nin0).keep K4q (ninS x39 nin0))
  have f55 := ((P56.keep K1q nin0).keep K4q (ninS x30 nin0))
  have f56 := ((P57.keep K1q nin0).keep K4q (ninS x39 nin0))
  have x57 := (nL (tL P60.lt z1_nw1))
  have f58 := ((P61.keep K1q nin0).keep K4q (ninS x57 nin0))
  have f59 := ((P68.keep K1q nin0).keep K4q (ninS x30 nin0))
  refine cP b S38 d39_189 (W 409 rfl) (W 410 rfl) (fun hZ => (own_selfP (z := yy3) (mvT hZ (W 172 rfl)) rfl (Cond.privateMethod_at (mvP hZ (W 411 rfl) (args := #[]))) (mvT hZ (W 410 rfl)) (by decide))) (W 411 rfl) (W 2 rfl) (W 412 rfl) (rm52_104 W S38.i ((P5.keep K1q).keep K4q) f7 P7 f25 f26 f28 f15 f29 ((P11.keep K1q).keep K4q) f18 ((P13.keep K1q).keep K4q) f20 f21 f23 ((P21.keep K1q).keep K4q) f31 f40 ((P28.keep K1q).keep K4q) f41 P30 f42 P32 ((P33.keep K1q).keep K4q) f44 f45 ((P36.keep K1q).keep K4q) f47 P38 f48 f49 f51 P42 P43 P44 P45 P46 P47 P48 P49 f52 P51 P52 P53 f53 f54 f55 f56 P58 P59 ((P60.keep K1q).keep K4q) f58 P62 P63 P64 P65 P66 P67 f59) ((P8.keep K1q).keep K4q) (by decide) (lenOf pd_12 rfl) rfl [] rfl 0 (own_le rfl) rfl 192 rfl fun T60 L60 v60 X60 q60 => ?_
  obtain ⟨rfl, N60q, K60q, KF60q, R60_0, R60_1, R60_2, R60_3, R60_4, R60_5, R60_6, R60_7, R60_8, R60_9, R60_10⟩ := q60
  have S60 := S38.call X60 N60q K60q KF60q (allS (.inl (mI 4 rfl)) (allS (.inl (mI 3 rfl)) (allS (.inl (mI 2 rfl)) (allS (.inl (mI 1 rfl)) (allS (.inl (mI 0 rfl)) all0))))) (fallS (.inl (mI 10 rfl)) (fallS (.inl (mI 9 rfl)) (fallS (.inl (mI 8 rfl)) (fallS (.inl (mI 7 rfl)) (fallS (.inl (mI 6 rfl)) (fallS (.inl (mI 5 rfl)) (fallS (.inl (mI 4 rfl)) (fallS (.inl (mI 3 rfl)) (fallS (.inl (mI 2 rfl)) (fallS (.inl (mI 1 rfl)) (fallS (.inl (mI 0 rfl)) fall0))))))))))) (allS P67 (allS P65 (allS P43 (allS P38 (allS P30 all0)))))
  refine gRn ?_
  refine cS b S60 d39_192 (W 196 rfl) (W 197 rfl) (W 198 rfl) (W 199 rfl) (rm21_23 W S60.i P69) (by decide) (lenOf pd_13 rfl) rfl [] rfl 0 (own_le rfl) rfl 195 rfl fun T61 L61 v61 X61 q61 => ?_
  obtain ⟨rfl, N61q, e61⟩ := q61
  have S61 := S60.same X61 N61q e61
  refine gRv ?_
  exact gRetA b S61 d39_195 rfl rfl rfl (own_le rfl) (own_le rfl) ⟨rfl, S61.f, S61.k, S61.kf, R60_10, R60_9, R60_8, R60_7, R60_6, R60_5, R60_4, R60_3, R60_2, R60_1, R60_0⟩
def Q_rm37_91 (Z : State) (ra1 ra2 ra3 ra4 ra5 ra7 ra8 ra9 ra10 ra11 ra12 ra14 ra15 ra16 ra17 ra18 ra20 : Addr) (ca6 ca13 ca19 : ClassId) (h0 : Heap) (n0 : Nat) (v : Option Value) (h : Heap) (L : List Loc) : Prop := v = some (.ref ra20) ∧ Fr n0 L ∧ Keep h0 h [ra12, ra18, ra16, ra15, ra2] ∧ KeepF h0 h [(ra12, some (sl12 Z)), (ra12, some (sl9 Z)), (ra18, some (sl6 Z)), (ra2, some (sl1 Z)), (ra2, some (sl6 Z)), (ra2, some (sl2 Z)), (ra2, some (sl4 Z)), (ra16, none), (ra15, some (sl17 Z)), (ra15, some (sl23 Z)), (ra2, some (sl3 Z))] ∧ Fld Z h ra12 ss1 ss3 "I" (.int (2 : Int32)) ∧ Fld Z h ra12 ss1 ss13 "I" (.int (2 : Int32)) ∧ Fld Z h ra18 ss0 ss9 "I" (.int (2 : Int32)) ∧ Fld Z h ra2 ss0 ss11 "I" (.int (1 : Int32)) ∧ Fld Z h ra2 ss0 ss9 "I" (.int (-1 : Int32)) ∧ Fld Z h ra2 ss0 ss14 "I" (.int (2 : Int32)) ∧ Fld Z h ra2 ss0 ss17 "I" (.int (2 : Int32)) ∧ Arv Z h ra16 ca19 (.object ss4) (10 : Int32) [(.ref ra17), (.ref ra18), (.ref ra2), .null, .null, .null, .null, .null, .null, .null] .null ∧ Fld Z h ra15 ss2 ss3 "I" (.int (3 : Int32)) ∧ Fld Z h ra15 ss5 ss6 "I" (.int (3 : Int32)) ∧ Fld Z h ra2 ss0 ss15 ss16 (.ref ra1)
theorem rm37_91 (W : Wd a0 Z) (I0 : IO Z n0 h0) {ra1 ra2 ra3 ra4 ra5 ra7 ra8 ra9 ra10 ra11 ra12 ra14 ra15 ra16 ra17 ra18 ra20 : Addr} {ca6 ca13 ca19 : ClassId} (P0 : Exa Z h0 ra3 ss2) (P1 : Fld Z h0 ra3 ss5 ss6 "I" (.int (1 : Int32))) (P2 : Fld Z h0 ra3 ss2 ss3 "I" (.int (1 : Int32))) (P3 : Fld Z h0 ra3 ss2 ss12 ss7 (.ref ra4)) (P4 : Arv Z h0 ra4 ca6 (.object ss4) (10 : Int32) [(.ref ra5), .null, .null, .null, .null, .null, .null, .null, .null, .null] .null) (P5 : Exa Z h0 ra5 ss1) (P6 : Fld Z h0 ra5 ss1 "kind" ss27 (.ref ra7)) (P7 : Sta Z Z.heap ss32 "A" ss33 (.ref ra7)) (P8 : Exa Z h0 ra1 ss28) (P9 : Fld Z h0 ra1 ss8 ss22 ss18 (.ref ra8)) (P10 : Fld Z h0 ra1 ss8 ss24 "I" (.int (1 : Int32))) (P11 : Exa Z h0 ra8 ss10) (P12 : Fld Z h0 ra8 ss10 ss19 ss20 (.ref ra9)) (P13 : Exa Z h0 ra9 ss2) (P14 : Fld Z h0 ra9 ss2 ss3 "I" (.int (3 : Int32))) (P15 : Fld Z h0 ra9 ss2 ss12 ss7 (.ref ra10)) (P16 : Arv Z h0 ra10 ca13 (.object ss4) (10 : Int32) [(.ref ra11), (.ref ra5), (.ref ra12), .null, .null, .null, .null, .null, .null, .null] .null) (P17 : Fld Z h0 ra5 ss1 ss21 "I" (.int (1 : Int32))) (P18 : Fld Z h0 ra5 ss1 ss3 "I" (.int (1 : Int32))) (P19 : Fld Z h0 ra5 ss1 ss15 ss16 (.ref ra1)) (P20 : Fld Z h0 ra5 ss1 ss11 "I" (.int (2 : Int32))) (P21 : Exa Z h0 ra12 ss1) (P22 : Fld Z h0 ra12 ss1 ss15 ss16 (.ref ra1)) (P23 : Fld Z h0 ra12 ss1 ss11 "I" (.int (-1 : Int32))) (P24 : Fld Z h0 ra1 ss28 ss34 ss35 (.ref ra11)) (P25 : Exa Z h0 ra11 ss1) (P26 : Fld Z h0 ra11 ss1 ss21 "I" (.int (0 : Int32))) (P27 : Fld Z h0 ra2 ss0 ss17 "I" (.int (-1 : Int32))) (P28 : Exa Z h0 ra2 ss0) (P29 : Fld Z h0 ra2 ss0 ss15 ss16 .null) (P30 : n0 ≤ ra2) (P31 : Fld Z h0 ra1 ss8 ss31 ss18 (.ref ra14)) (P32 : ra1 ≠ ra2) (P33 : Exa Z h0 ra14 ss10) (P34 : Fld Z h0 ra14 ss10 ss26 "I" (.int (0 : Int32))) (P35 : Fld Z h0 ra14 ss10 ss19 ss20 (.ref ra15)) (P36 : Exa Z h0 ra15 ss2) (P37 : Fld Z h0 ra15 ss5 ss6 "I" (.int (2 : Int32))) (P38 : n0 ≤ ra15) (P39 : Fld Z h0 ra15 ss2 ss12 ss7 (.ref ra16)) (P40 : Fld Z h0 ra15 ss2 ss3 "I" (.int (2 : Int32))) (P41 : Arv Z h0 ra16 ca19 (.object ss4) (10 : Int32) [(.ref ra17), (.ref ra18), .null, .null, .null, .null, .null, .null, .null, .null] .null) (P42 : Ovr Z ca19 ss4) (P43 : n0 ≤ ra16) (P44 : ra15 ≠ ra16) (P45 : ra14 ≠ ra16) (P46 : ra14 ≠ ra15) (P47 : ra14 ≠ ra2) (P48 : ra15 ≠ ra2) (P49 : ra16 ≠ ra2) (P50 : Fld Z h0 ra12 ss1 ss17 "I" (.int (2 : Int32))) (P51 : ra12 ≠ ra2) (P52 : ra12 ≠ ra15) (P53 : ra12 ≠ ra16) (P54 : Fld Z h0 ra2 ss0 ss14 "I" (.int (-1 : Int32))) (P55 : Fld Z h0 ra2 ss0 ss9 "I" (.int (-1 : Int32))) (P56 : Fld Z h0 ra12 ss1 ss13 "I" (.int (1 : Int32))) (P57 : Fld Z h0 ra2 ss0 ss11 "I" (.int (-1 : Int32))) (P58 : ra1 ≠ ra15) (P59 : ra1 ≠ ra16) (P60 : Exa Z h0 ra18 ss0) (P61 : Fld Z h0 ra18 ss0 ss9 "I" (.int (-1 : Int32))) (P62 : ra18 ≠ ra2) (P63 : ra18 ≠ ra15) (P64 : ra18 ≠ ra16) (P65 : n0 ≤ ra18) (P66 : ra12 ≠ ra18) (P67 : n0 ≤ ra12) (P68 : Fld Z h0 ra12 ss1 ss3 "I" (.int (1 : Int32))) (P69 : Sta Z Z.heap ss29 "APPLIED" ss36 (.ref ra20)) : OwnM l yy8 (.code yy8 k37_ 7 (some (.object ss29))) ⟨8, 2, 8, 118⟩ #[(.ref ra1), (.ref ra2), (.ref ra3)] Z h0 (Q_rm37_91 Z ra1 ra2 ra3 ra4 ra5 ra7 ra8 ra9 ra10 ra11 ra12 ra14 ra15 ra16 ra17 ra18 ra20 ca6 ca13 ca19 h0 n0) := by
  refine own_open [ra12, ra18, ra16, ra15, ra2] [(ra12, some (sl12 Z)), (ra12, some (sl9 Z)), (ra18, some (sl6 Z)), (ra2, some (sl1 Z)), (ra2, some (sl6 Z)), (ra2, some (sl2 Z)), (ra2, some (sl4 Z)), (ra16, none), (ra15, some (sl17 Z)), (ra15, some (sl23 Z)), (ra2, some (sl3 Z))] #[.val (.ref ra1), .val (.ref ra2), .val (.ref ra3), .unset, .unset, .unset, .unset] (plainFor_of_name pn_7) I0 ?_
  intro p e s m below meth c T b S0
  refine gNull b S0 d37_0 1 rfl ?_
  refine gAs b S0 d37_1 rfl #[.val (.ref ra1), .val (.ref ra2), .val (.ref ra3), .val .null, .unset, .unset, .unset] rfl 2 rfl ?_
  refine gNull b S0 d37_2 3 rfl ?_
  refine gAsW b S0 d37_3 rfl #[.val (.ref ra1), .val (.ref ra2), .val (.ref ra3), .val .null, .val .null, .unset, .unset] rfl 5 rfl ?_
  refine gAl b S0 d37_5 rfl rfl 6 rfl ?_
  refine cI (xi := yy61) b S0 d37_6 (W 312 rfl) (W 209 rfl) (fun hZ => mvT hZ (W 210 rfl)) (W 211 rfl) (W 212 rfl) (W 213 rfl) (W 214 rfl) (W 98 rfl) (W 23 rfl) (W 215 rfl) (rm23_27 W S0.i P1) P0 (by decide) (lenOf pd_16 rfl) rfl [] rfl 0 (own_le rfl) rfl 11 rfl fun T1 L1 v1 X1 q1 => ?_
  obtain ⟨nw1_1, rfl, N1q, K1q, KF1q, z1_nw1, R1_0, R1_1, R1_2, R1_3, R1_4⟩ := q1
  have S1 := S0.call X1 N1q K1q KF1q all0 fall0 all0
  refine gRv ?_
  refine gAsW b S1 d37_11 rfl #[.val (.ref ra1), .val (.ref ra2), .val (.ref ra3), .val .null, .val .null, .val (.ref nw1_1), .unset] rfl 13 rfl ?_
  refine gAlW b S1 d37_13 rfl rfl 15 rfl ?_
  refine cI (xi := yy56) b S1 d37_15 (W 313 rfl) (W 232 rfl) (fun hZ => mvT hZ (W 233 rfl)) (W 234 rfl) (W 235 rfl) (W 236 rfl) (W 237 rfl) (W 238 rfl) (W 218 rfl) (W 239 rfl) (rm25_29 W S1.i R1_1 R1_2 (P2.keep K1q nin0)) R1_0 (by decide) (lenOf pd_11 rfl) rfl [] rfl 0 (own_le rfl) rfl 20 rfl fun T2 L2 v2 X2 q2 => ?_
  obtain ⟨rfl, N2q, e2⟩ := q2
  have S2 := S1.same X2 N2q e2
  refine gRv ?_
  refine gIfN b S2 d37_20 rfl 23 rfl ?_
  refine gAlW b S2 d37_23 rfl rfl 25 rfl ?_
  have x3 := (nL (tL P4.lt z1_nw1))
  refine cI (xi := yy57) b S2 d37_25 (W 314 rfl) (W 244 rfl) (fun hZ => mvT hZ (W 245 rfl)) (W 246 rfl) (W 247 rfl) (W 248 rfl) (W 249 rfl) (W 238 rfl) (W 218 rfl) (W 250 rfl) (rm26_30 W S2.i R1_0 R1_2 (P1.keep K1q nin0) R1_4 R1_1 (P2.keep K1q nin0) (P3.keep K1q nin0) (P4.keep K1q nin0) (S0.ge z1_nw1) R1_3 x3) R1_0 (by decide) (lenOf pd_17 rfl) rfl [] rfl 0 (own_le rfl) rfl 30 rfl fun T4 L4 v4 X4 q4 => ?_
  obtain ⟨rfl, N4q, K4q, KF4q, R4_0, R4_1⟩ := q4
  have S4 := S2.call X4 N4q K4q KF4q (allS (.inr (S0.sz z1_nw1)) all0) (fallS (.inr (.inr (S0.sz z1_nw1))) (fallS (.inr (.inr (S0.sz z1_nw1))) fall0)) (allS (S0.ge z1_nw1) all0)
  refine gRv ?_
  refine gCc b S4 d37_30 (W 315 rfl) (Ins.self ((P5.keep K1q).keep K4q)) 33 rfl fun T5 S5 => ?_
  refine gAsW b S5 d37_33 rfl #[.val (.ref ra1), .val (.ref ra2), .val (.ref ra3), .val .null, .val .null, .val (.ref nw1_1), .val (.ref ra5)] rfl 35 rfl ?_
  refine gAlW b S5 d37_35 rfl rfl 37 rfl ?_
  have x6 := (nL (tL P5.lt z1_nw1))
  have f7 := ((P6.keep K1q nin0).keep K4q (ninS x6 nin0))
  refine cV b S5 d37_37 (W 316 rfl) (W 317 rfl) (W 319 rfl) (W 318 rfl) (W 69 rfl) (W 320 rfl) (rm38_44 W S5.i f7) ((P5.keep K1q).keep K4q) (by decide) (lenOf pd_17 rfl) rfl [] rfl 0 (own_le rfl) rfl 40 rfl fun T8 L8 v8 X8 q8 => ?_
  obtain ⟨rfl, N8q, e8⟩ := q8
  have S8 := S5.same X8 N8q e8
  refine gRv ?_
  refine gGs b S8 d37_40 (W 321 rfl) P7 43 rfl fun T9 S9 => ?_
  refine gAc b S9 d37_43 rfl rfl true (decide_eq_true rfl) 46 (by decide) (by decide) ?_
  refine gAlW b S9 d37_46 rfl rfl 48 rfl ?_
  refine gAs b S9 d37_48 rfl #[.val (.ref ra1), .val (.ref ra2), .val (.ref ra3), .val (.ref ra5), .val .null, .val (.ref nw1_1), .val (.ref ra5)] rfl 49 rfl ?_
  refine gGoto b S9 d37_49 67 (by decide) rfl ?_
  refine gGoto b S9 d37_67 13 (by decide) rfl ?_
  refine gAlW b S9 d37_13 rfl rfl 15 rfl ?_
  have f10 := (R1_2.kf K4q KF4q (nofB (sn119 W) (nofB (sn103 W) nof0)))
  have x11 := (nL (tL P0.lt z1_nw1))
  have f12 := ((P2.keep K1q nin0).keep K4q (ninS x11 nin0))
  refine cI (xi := yy56) b S9 d37_15 (W 313 rfl) (W 232 rfl) (fun hZ => mvT hZ (W 233 rfl)) (W 234 rfl) (W 235 rfl) (W 236 rfl) (W 237 rfl) (W 238 rfl) (W 218 rfl) (W 239 rfl) (rm25_42 W S9.i R4_0 f10 f12) (R1_0.keep K4q) (by decide) (lenOf pd_11 rfl) rfl [] rfl 0 (own_le rfl) rfl 20 rfl fun T13 L13 v13 X13 q13 => ?_
  obtain ⟨rfl, N13q, e13⟩ := q13
  have S13 := S9.same X13 N13q e13
  refine gRv ?_
  refine gIfY b S13 d37_20 rfl 70 (by decide) rfl ?_
  refine gAl b S13 d37_70 rfl rfl 71 rfl ?_
  refine gNuN b S13 d37_71 74 rfl ?_
  refine gAlW b S13 d37_74 rfl rfl 76 rfl ?_
  refine gNuY b S13 d37_76 258 (by decide) rfl ?_
  refine gAl b S13 d37_258 rfl rfl 259 rfl ?_
  refine gAl b S13 d37_259 rfl rfl 260 rfl ?_
  refine gAlW b S13 d37_260 rfl rfl 262 rfl ?_
  refine gNnN b S13 d37_262 265 rfl ?_
  refine gGs b S13 d37_265 (W 321 rfl) P7 268 rfl fun T14 S14 => ?_
  refine gGoto b S14 d37_268 274 (by decide) rfl ?_
  refine gAl b S14 d37_274 rfl rfl 275 rfl ?_
  have f15 := ((P1.keep K1q nin0).keep K4q (ninS x11 nin0))
  have f16 := ((P3.keep K1q nin0).keep K4q (ninS x11 nin0))
  have f17 := ((P4.keep K1q nin0).keep K4q (ninS x3 nin0))
  have x18 := (nL (tL P8.lt z1_nw1))
  have f19 := ((P9.keep K1q nin0).keep K4q (ninS x18 nin0))
  have f20 := ((P10.keep K1q nin0).keep K4q (ninS x18 nin0))
  have x21 := (nL (tL P11.lt z1_nw1))
  have f22 := ((P12.keep K1q nin0).keep K4q (ninS x21 nin0))
  have x23 := (nL (tL P13.lt z1_nw1))
  have f24 := ((P14.keep K1q nin0).keep K4q (ninS x23 nin0))
  have f25 := ((P15.keep K1q nin0).keep K4q (ninS x23 nin0))
  have x26 := (nL (tL P16.lt z1_nw1))
  have f27 := ((P16.keep K1q nin0).keep K4q (ninS x26 nin0))
  have f28 := ((P17.keep K1q nin0).keep K4q (ninS x6 nin0))
  have f29 := ((P18.keep K1q nin0).keep K4q (ninS x6 nin0))
  have f30 := ((P19.keep K1q nin0).keep K4q (ninS x6 nin0))
  have f31 := ((P20.keep K1q nin0).keep K4q (ninS x6 nin0))
  have x32 := (nL (tL P21.lt z1_nw1))
  have f33 := ((P22.keep K1q nin0).keep K4q (ninS x32 nin0))
  have f34 := ((P23.keep K1q nin0).keep K4q (ninS x32 nin0))
  have f35 := ((P24.keep K1q nin0).keep K4q (ninS x18 nin0))
  have x36 := (nL (tL P25.lt z1_nw1))
  have f37 := ((P26.keep K1q nin0).keep K4q (ninS x36 nin0))
  have x38 := (nL (tL P27.lt z1_nw1))
  have f39 := ((P27.keep K1q nin0).keep K4q (ninS x38 nin0))
  have f40 := ((P29.keep K1q nin0).keep K4q (ninS x38 nin0))
  have f41 := ((P31.keep K1q nin0).keep K4q (ninS x18 nin0))
  have x42 := (nL (tL P33.lt z1_nw1))
  have f43 := ((P34.keep K1q nin0).keep K4q (ninS x42 nin0))
  have f44 := ((P35.keep K1q nin0).keep K4q (ninS x42 nin0))
  have x45 := (nL (tL P36.lt z1_nw1))
  have f46 := ((P37.keep K1q nin0).keep K4q (ninS x45 nin0))
  have f47 := ((P39.keep K1q nin0).keep K4q (ninS x45 nin0))
  have f48 := ((P40.keep K1q nin0).keep K4q (ninS x45 nin0))
  have x49 := (nL (tL P41.lt z1_nw1))
  have f50 := ((P41.keep K1q nin0).keep K4q (ninS x49 nin0))
  have f51 := ((P50.keep K1q nin0).keep K4q (ninS x32 nin0))
  have f52 := ((P54.keep K1q nin0).keep K4q (ninS x38 nin0))
  have f53 := ((P55.keep K1q nin0).keep K4q (ninS x38 nin0))
  have f54 := ((P56.keep K1q nin0).keep K4q (ninS x32 nin0))
  have f55 := ((P57.keep K1q nin0).keep K4q (ninS x38 nin0))
  have x56 := (nL (tL P60.lt z1_nw1))
  have f57 := ((P61.keep K1q nin0).keep K4q (ninS x56 nin0))
  have f58 := ((P68.keep K1q nin0).keep K4q (ninS x32 nin0))
  refine cP b S14 d37_275 (W 325 rfl) (W 326 rfl) (fun hZ => (own_selfP (z := yy3) (mvT hZ (W 172 rfl)) rfl (Cond.privateMethod_at (mvP hZ (W 327 rfl) (args := #[]))) (mvT hZ (W 326 rfl)) (by decide))) (W 327 rfl) (W 2 rfl) (W 328 rfl) (rm39_92 W S14.i ((P0.keep K1q).keep K4q) f15 f12 f16 f17 ((P5.keep K1q).keep K4q) f7 P7 ((P8.keep K1q).keep K4q) f19 f20 ((P11.keep K1q).keep K4q) f22 ((P13.keep K1q).keep K4q) f24 f25 f27 f28 f29 f30 f31 ((P21.keep K1q).keep K4q) f33 f34 f35 ((P25.keep K1q).keep K4q) f37 f39 ((P28.keep K1q).keep K4q) f40 P30 f41 P32 ((P33.keep K1q).keep K4q) f43 f44 ((P36.keep K1q).keep K4q) f46 P38 f47 f48 f50 P42 P43 P44 P45 P46 P47 P48 P49 f51 P51 P52 P53 f52 f53 f54 f55 P58 P59 ((P60.keep K1q).keep K4q) f57 P62 P63 P64 P65 P66 P67 f58 P69) ((P8.keep K1q).keep K4q) (by decide) (lenOf pd_27 rfl) rfl [] rfl 0 (own_le rfl) rfl 278 rfl fun T59 L59 v59 X59 q59 => ?_
  obtain ⟨rfl, N59q, K59q, KF59q, R59_0, R59_1, R59_2, R59_3, R59_4, R59_5, R59_6, R59_7, R59_8, R59_9, R59_10⟩ := q59
  have S59 := S14.call X59 N59q K59q KF59q (allS (.inl (mI 4 rfl)) (allS (.inl (mI 3 rfl)) (allS (.inl (mI 2 rfl)) (allS (.inl (mI 1 rfl)) (allS (.inl (mI 0 rfl)) all0))))) (fallS (.inl (mI 10 rfl)) (fallS (.inl (mI 9 rfl)) (fallS (.inl (mI 8 rfl)) (fallS (.inl (mI 7 rfl)) (fallS (.inl (mI 6 rfl)) (fallS (.inl (mI 5 rfl)) (fallS (.inl (mI 4 rfl)) (fallS (.inl (mI 3 rfl)) (fallS (.inl (mI 2 rfl)) (fallS (.inl (mI 1 rfl)) (fallS (.inl (mI 0 rfl)) fall0))))))))))) (allS P30 (allS P38 (allS P43 (allS P65 (allS P67 all0)))))
  refine gRv ?_
  exact gRetA b S59 d37_278 rfl rfl rfl (own_le rfl) (own_le rfl) ⟨rfl, S59.f, S59.k, S59.kf, R59_10, R59_9, R59_8, R59_7, R59_6, R59_5, R59_4, R59_3, R59_2, R59_1, R59_0⟩
def Q_rm47_110 (Z : State) (ra1 : Addr) (h0 : Heap) (n0 : Nat) (v : Option Value) (h : Heap) (L : List Loc) : Prop := v = none ∧ Fr n0 L ∧ Keep h0 h [ra1] ∧ KeepF h0 h [(ra1, some (sl5 Z))] ∧ Fld Z h ra1 ss0 ss25 "I" (.int (2 : Int32))
theorem rm47_110 (W : Wd a0 Z) (I0 : IO Z n0 h0) {ra1 : Addr} (P0 : Fld Z h0 ra1 ss0 ss25 "I" (.int (1 : Int32))) (P1 : Exa Z h0 ra1 ss0) (P2 : n0 ≤ ra1) : OwnM l yy16 (.code yy16 k47_ 2 none) ⟨0, 0, 0, 0⟩ #[(.ref ra1), (.int (1 : Int32))] Z h0 (Q_rm47_110 Z ra1 h0 n0) := by
  refine own_open [ra1] [(ra1, some (sl5 Z))] #[.val (.ref ra1), .val (.int (1 : Int32))] (plainFor_of_name pn_5) I0 ?_
  intro p e s m below meth c T b S0
  refine gAl b S0 d47_0 rfl rfl 1 rfl ?_
  refine gDup b S0 d47_1 rfl 2 rfl ?_
  refine gGfR b S0 d47_2 (W 386 rfl) Via.refl P0 5 rfl fun T1 S1 => ?_
  refine gIl b S1 d47_5 rfl 6 rfl ?_
  refine gAdd b S1 d47_6 2 rfl 7 rfl ?_
  refine gPfR b S1 .int d47_7 (W 386 rfl) Via.refl P0 P1 (W 387 rfl) (W 139 rfl) pf2 rfl rfl P2 (.inl ⟨mI 0 rfl, mI 0 rfl⟩) 10 rfl fun T2 h2 W2 F2 S2 => ?_
  exact gRetV b S2 d47_10 (own_le rfl) (own_le rfl) ⟨rfl, S2.f, S2.k, S2.kf, F2⟩
def Q_rm18_84 (Z : State) (ra1 ra2 ra3 ra4 ra5 ra6 ra8 ra9 ra10 ra11 ra12 ra13 ra16 ra17 ra18 ra19 ra20 ra22 ra23 : Addr) (ca7 ca14 ca15 ca21 : ClassId) (h0 : Heap) (n0 : Nat) (v : Option Value) (h : Heap) (L : List Loc) : Prop := v = some (.ref ra22) ∧ Fr n0 L ∧ Keep h0 h [ra12, ra6, ra2, ra18, ra19, ra20, ra13] ∧ KeepF h0 h [(ra12, some (sl11 Z)), (ra6, some (sl2 Z)), (ra6, some (sl6 Z)), (ra6, some (sl1 Z)), (ra12, some (sl9 Z)), (ra12, some (sl12 Z)), (ra2, some (sl3 Z)), (ra18, some (sl23 Z)), (ra18, some (sl17 Z)), (ra19, none), (ra2, some (sl4 Z)), (ra2, some (sl2 Z)), (ra2, some (sl6 Z)), (ra2, some (sl1 Z)), (ra20, some (sl6 Z)), (ra13, some (sl9 Z)), (ra13, some (sl12 Z)), (ra2, some (sl5 Z)), (ra6, some (sl5 Z))] ∧ Fld Z h ra12 ss1 ss21 "I" (.int (0 : Int32)) ∧ Fld Z h ra6 ss0 ss14 "I" (.int (1 : Int32)) ∧ Fld Z h ra6 ss0 ss9 "I" (.int (-1 : Int32)) ∧ Fld Z h ra6 ss0 ss11 "I" (.int (-1 : Int32)) ∧ Fld Z h ra12 ss1 ss13 "I" (.int (0 : Int32)) ∧ Fld Z h ra12 ss1 ss3 "I" (.int (1 : Int32)) ∧ Fld Z h ra2 ss0 ss15 ss16 (.ref ra1) ∧ Fld Z h ra18 ss5 ss6 "I" (.int (3 : Int32)) ∧ Fld Z h ra18 ss2 ss3 "I" (.int (3 : Int32)) ∧ Arv Z h ra19 ca21 (.object ss4) (10 : Int32) [(.ref ra6), (.ref ra20), (.ref ra2), .null, .null, .null, .null, .null, .null, .null] .null ∧ Fld Z h ra2 ss0 ss17 "I" (.int (2 : Int32)) ∧ Fld Z h ra2 ss0 ss14 "I" (.int (2 : Int32)) ∧ Fld Z h ra2 ss0 ss9 "I" (.int (-1 : Int32)) ∧ Fld Z h ra2 ss0 ss11 "I" (.int (1 : Int32)) ∧ Fld Z h ra20 ss0 ss9 "I" (.int (2 : Int32)) ∧ Fld Z h ra13 ss1 ss13 "I" (.int (2 : Int32)) ∧ Fld Z h ra13 ss1 ss3 "I" (.int (2 : Int32)) ∧ Fld Z h ra2 ss0 ss25 "I" (.int (1 : Int32)) ∧ Fld Z h ra6 ss0 ss25 "I" (.int (2 : Int32))
theorem rm18_84 (W : Wd a0 Z) (I0 : IO Z n0 h0) {ra1 ra2 ra3 ra4 ra5 ra6 ra8 ra9 ra10 ra11 ra12 ra13 ra16 ra17 ra18 ra19 ra20 ra22 ra23 : Addr} {ca7 ca14 ca15 ca21 : ClassId} (P0 : Exa Z h0 ra3 ss2) (P1 : Fld Z h0 ra3 ss2 ss3 "I" (.int (1 : Int32))) (P2 : Sta Z Z.heap ss2 ss30 ss7 (.ref ra4)) (P3 : Fld Z h0 ra3 ss5 ss6 "I" (.int (1 : Int32))) (P4 : Fld Z h0 ra3 ss2 ss12 ss7 (.ref ra5)) (P5 : Arv Z h0 ra5 ca7 (.object ss4) (10 : Int32) [(.ref ra6), .null, .null, .null, .null, .null, .null, .null, .null, .null] .null) (P6 : Exa Z h0 ra6 ss0) (P7 : Fld Z h0 ra6 ss0 ss15 ss16 (.ref ra1)) (P8 : Fld Z h0 ra1 ss8 ss22 ss18 (.ref ra8)) (P9 : Fld Z h0 ra6 ss0 ss14 "I" (.int (1 : Int32))) (P10 : Exa Z h0 ra8 ss10) (P11 : Fld Z h0 ra8 ss10 ss19 ss20 (.ref ra9)) (P12 : Exa Z h0 ra9 ss2) (P13 : Fld Z h0 ra9 ss2 ss3 "I" (.int (3 : Int32))) (P14 : Fld Z h0 ra9 ss2 ss12 ss7 (.ref ra10)) (P15 : Arv Z h0 ra10 ca14 (.object ss4) (10 : Int32) [(.ref ra11), (.ref ra12), (.ref ra13), .null, .null, .null, .null, .null, .null, .null] .null) (P16 : Exa Z h0 ra12 ss1) (P17 : Fld Z h0 ra12 ss1 ss21 "I" (.int (0 : Int32))) (P18 : Arv Z Z.heap ra4 ca15 (.object ss4) (0 : Int32) [] .null) (P19 : n0 ≤ ra12) (P20 : Fld Z h0 ra6 ss0 ss9 "I" (.int (-1 : Int32))) (P21 : Fld Z h0 ra6 ss0 ss11 "I" (.int (-1 : Int32))) (P22 : Fld Z h0 ra12 ss1 ss13 "I" (.int (0 : Int32))) (P23 : ra6 ≠ ra12) (P24 : Exa Z h0 ra1 ss28) (P25 : ra1 ≠ ra12) (P26 : ra8 ≠ ra12) (P27 : ra9 ≠ ra12) (P28 : ra10 ≠ ra12) (P29 : Fld Z h0 ra12 ss1 ss3 "I" (.int (1 : Int32))) (P30 : Fld Z h0 ra12 ss1 ss15 ss16 (.ref ra1)) (P31 : Fld Z h0 ra6 ss0 ss17 "I" (.int (0 : Int32))) (P32 : Fld Z h0 ra12 ss1 ss17 "I" (.int (1 : Int32))) (P33 : n0 ≤ ra6) (P34 : ra3 ≠ ra6) (P35 : ra3 ≠ ra12) (P36 : Fld Z h0 ra12 ss1 "kind" ss27 (.ref ra16)) (P37 : Sta Z Z.heap ss32 "A" ss33 (.ref ra16)) (P38 : Fld Z h0 ra1 ss8 ss24 "I" (.int (1 : Int32))) (P39 : Fld Z h0 ra12 ss1 ss11 "I" (.int (2 : Int32))) (P40 : Exa Z h0 ra13 ss1) (P41 : Fld Z h0 ra13 ss1 ss15 ss16 (.ref ra1)) (P42 : Fld Z h0 ra13 ss1 ss11 "I" (.int (-1 : Int32))) (P43 : Fld Z h0 ra1 ss28 ss34 ss35 (.ref ra11)) (P44 : Exa Z h0 ra11 ss1) (P45 : Fld Z h0 ra11 ss1 ss21 "I" (.int (0 : Int32))) (P46 : Fld Z h0 ra2 ss0 ss17 "I" (.int (-1 : Int32))) (P47 : Exa Z h0 ra2 ss0) (P48 : Fld Z h0 ra2 ss0 ss15 ss16 .null) (P49 : n0 ≤ ra2) (P50 : Fld Z h0 ra1 ss8 ss31 ss18 (.ref ra17)) (P51 : ra1 ≠ ra2) (P52 : Exa Z h0 ra17 ss10) (P53 : Fld Z h0 ra17 ss10 ss26 "I" (.int (0 : Int32))) (P54 : Fld Z h0 ra17 ss10 ss19 ss20 (.ref ra18)) (P55 : Exa Z h0 ra18 ss2) (P56 : Fld Z h0 ra18 ss5 ss6 "I" (.int (2 : Int32))) (P57 : n0 ≤ ra18) (P58 : Fld Z h0 ra18 ss2 ss12 ss7 (.ref ra19)) (P59 : Fld Z h0 ra18 ss2 ss3 "I" (.int (2 : Int32))) (P60 : Arv Z h0 ra19 ca21 (.object ss4) (10 : Int32) [(.ref ra6), (.ref ra20), .null, .null, .null, .null, .null, .null, .null, .null] .null) (P61 : Ovr Z ca21 ss4) (P62 : n0 ≤ ra19) (P63 : ra18 ≠ ra19) (P64 : ra17 ≠ ra19) (P65 : ra17 ≠ ra18) (P66 : ra17 ≠ ra2) (P67 : ra18 ≠ ra2) (P68 : ra19 ≠ ra2) (P69 : Fld Z h0 ra13 ss1 ss17 "I" (.int (2 : Int32))) (P70 : ra13 ≠ ra2) (P71 : ra13 ≠ ra18) (P72 : ra13 ≠ ra19) (P73 : Fld Z h0 ra2 ss0 ss14 "I" (.int (-1 : Int32))) (P74 : Fld Z h0 ra2 ss0 ss9 "I" (.int (-1 : Int32))) (P75 : Fld Z h0 ra13 ss1 ss13 "I" (.int (1 : Int32))) (P76 : Fld Z h0 ra2 ss0 ss11 "I" (.int (-1 : Int32))) (P77 : ra1 ≠ ra18) (P78 : ra1 ≠ ra19) (P79 : Exa Z h0 ra20 ss0) (P80 : Fld Z h0 ra20 ss0 ss9 "I" (.int (-1 : Int32))) (P81 : ra20 ≠ ra2) (P82 : ra20 ≠ ra18) (P83 : ra20 ≠ ra19) (P84 : n0 ≤ ra20) (P85 : ra13 ≠ ra20) (P86 : n0 ≤ ra13) (P87 : Fld Z h0 ra13 ss1 ss3 "I" (.int (1 : Int32))) (P88 : Sta Z Z.heap ss29 "APPLIED" ss36 (.ref ra22)) (P89 : ra1 ≠ ra6) (P90 : ra8 ≠ ra6) (P91 : ra9 ≠ ra6) (P92 : ra10 ≠ ra6) (P93 : ra13 ≠ ra12) (P94 : ra13 ≠ ra6) (P95 : ra11 ≠ ra12) (P96 : ra11 ≠ ra6) (P97 : ra2 ≠ ra12) (P98 : ra2 ≠ ra6) (P99 : ra17 ≠ ra12) (P100 : ra17 ≠ ra6) (P101 : ra18 ≠ ra12) (P102 : ra18 ≠ ra6) (P103 : ra19 ≠ ra12) (P104 : ra19 ≠ ra6) (P105 : ra20 ≠ ra12) (P106 : ra20 ≠ ra6) (P107 : Exa Z Z.heap ra22 ss29) (P108 : Fld Z Z.heap ra22 ss29 "kind" ss40 (.ref ra23)) (P109 : Sta Z Z.heap ss41 "APPLIED" ss40 (.ref ra23)) (P110 : ra3 ≠ ra2) (P111 : ra3 ≠ ra18) (P112 : ra3 ≠ ra19) (P113 : ra3 ≠ ra20) (P114 : ra3 ≠ ra13) (P115 : Fld Z h0 ra2 ss0 ss25 "I" (.int (0 : Int32))) (P116 : ra5 ≠ ra12) (P117 : ra5 ≠ ra6) (P118 : ra5 ≠ ra2) (P119 : ra5 ≠ ra18) (P120 : ra5 ≠ ra19) (P121 : ra5 ≠ ra20) (P122 : ra5 ≠ ra13) (P123 : Fld Z h0 ra6 ss0 ss25 "I" (.int (1 : Int32))) : OwnM l yy3 (Jvm.Cond.codeWith yy3 k18_ 8 (some (.object ss29)) [((26 : Nat), (98 : Nat), (105 : Nat), (0 : Nat)), ((105 : Nat), (107 : Nat), (105 : Nat), (0 : Nat))]) ⟨9, 7, 33, 136⟩ #[(.ref ra1), (.ref ra2), (.ref ra3)] Z h0 (Q_rm18_84 Z ra1 ra2 ra3 ra4 ra5 ra6 ra8 ra9 ra10 ra11 ra12 ra13 ra16 ra17 ra18 ra19 ra20 ra22 ra23 ca7 ca14 ca15 ca21 h0 n0) := by
  refine own_openW [ra12, ra6, ra2, ra18, ra19, ra20, ra13] [(ra12, some (sl11 Z)), (ra6, some (sl2 Z)), (ra6, some (sl6 Z)), (ra6, some (sl1 Z)), (ra12, some (sl9 Z)), (ra12, some (sl12 Z)), (ra2, some (sl3 Z)), (ra18, some (sl23 Z)), (ra18, some (sl17 Z)), (ra19, none), (ra2, some (sl4 Z)), (ra2, some (sl2 Z)), (ra2, some (sl6 Z)), (ra2, some (sl1 Z)), (ra20, some (sl6 Z)), (ra13, some (sl9 Z)), (ra13, some (sl12 Z)), (ra2, some (sl5 Z)), (ra6, some (sl5 Z))] #[.val (.ref ra1), .val (.ref ra2), .val (.ref ra3), .unset, .unset, .unset, .unset, .unset] (plainFor_of_name pn_7) I0 ?_
  intro p e s m below meth c T b S0
  refine gAl b S0 d18_0 rfl rfl 1 rfl ?_
  refine cI (xi := yy60) b S0 d18_1 (W 174 rfl) (W 175 rfl) (fun hZ => mvT hZ (W 176 rfl)) (W 177 rfl) (W 178 rfl) (W 179 rfl) (W 180 rfl) (W 98 rfl) (W 23 rfl) (W 181 rfl) (rm19_25 W S0.i P1) P0 (by decide) (lenOf pd_11 rfl) rfl [] rfl 0 (own_le rfl) rfl 6 rfl fun T1 L1 v1 X1 q1 => ?_
  obtain ⟨rfl, N1q, e1⟩ := q1
  have S1 := S0.same X1 N1q e1
  refine gRv ?_
  refine gIfY b S1 d18_6 rfl 21 (by decide) rfl ?_
  refine gAl b S1 d18_21 rfl rfl 22 rfl ?_
  refine cSU (owner := ss8) b S1 d18_22 (W 202 rfl) (W 203 rfl) (W 204 rfl) (W 9 rfl) (W 205 rfl) (rm22_85 W S1.i P2 P0 P3 P1 P4 P5 P6 P7 P8 P9 P10 P11 P12 P13 P14 P15 P16 P17 P18 P19 P20 P21 P22 P23 P25 P26 P27 P28 P29 P30 P31 P32 P33 P34 P35) (by decide) (lenOf pd_23 rfl) rfl [] rfl 0 (own_le rfl) rfl 25 rfl fun T2 L2 v2 X2 q2 => ?_
  obtain ⟨nw1_2, nw2_2, kw1_2, rfl, N2q, K2q, KF2q, z2_nw1, z2_nw2, R2_0, R2_1, R2_2, R2_3, R2_4, R2_5, R2_6, R2_7, R2_8, R2_9, R2_10, R2_11, R2_12⟩ := q2
  have S2 := S1.call X2 N2q K2q KF2q (allS (.inl (mI 1 rfl)) (allS (.inl (mI 0 rfl)) all0)) (fallS (.inl (mI 5 rfl)) (fallS (.inl (mI 4 rfl)) (fallS (.inl (mI 3 rfl)) (fallS (.inl (mI 2 rfl)) (fallS (.inl (mI 1 rfl)) (fallS (.inl (mI 0 rfl)) fall0)))))) (allS P33 (allS P19 all0))
  refine gRv ?_
  refine gAs b S2 d18_25 rfl #[.val (.ref ra1), .val (.ref ra2), .val (.ref ra3), .val (.ref nw1_2), .unset, .unset, .unset, .unset] rfl 26 rfl ?_
  refine gAl b S2 d18_26 rfl rfl 27 rfl ?_
  refine gAl b S2 d18_27 rfl rfl 28 rfl ?_
  refine gAl b S2 d18_28 rfl rfl 29 rfl ?_
  have f3 := (P36.kf K2q KF2q (nofB (sn121 W) (nofB (sn26 W) (nofA (nS P23) (nofA (nS P23) (nofA (nS P23) (nofB (sn123 W) nof0)))))))
  have f4 := (P8.keep K2q (ninS P89 (ninS P25 nin0)))
  have f5 := (P38.keep K2q (ninS P89 (ninS P25 nin0)))
  have f6 := (P11.keep K2q (ninS P90 (ninS P26 nin0)))
  have f7 := (P13.keep K2q (ninS P91 (ninS P27 nin0)))
  have f8 := (P14.keep K2q (ninS P91 (ninS P27 nin0)))
  have f9 := (P15.keep K2q (ninS P92 (ninS P28 nin0)))
  have f10 := (P30.kf K2q KF2q (nofB (sn112 W) (nofB (sn23 W) (nofA (nS P23) (nofA (nS P23) (nofA (nS P23) (nofB (sn116 W) nof0)))))))
  have f11 := (P39.kf K2q KF2q (nofB (sn122 W) (nofB (sn21 W) (nofA (nS P23) (nofA (nS P23) (nofA (nS P23) (nofB (sn135 W) nof0)))))))
  have f12 := (P41.keep K2q (ninS P94 (ninS P93 nin0)))
  have f13 := (P42.keep K2q (ninS P94 (ninS P93 nin0)))
  have f14 := (P43.keep K2q (ninS P89 (ninS P25 nin0)))
  have f15 := (P45.keep K2q (ninS P96 (ninS P95 nin0)))
  have f16 := (P46.keep K2q (ninS P98 (ninS P97 nin0)))
  have f17 := (P48.keep K2q (ninS P98 (ninS P97 nin0)))
  have f18 := (P50.keep K2q (ninS P89 (ninS P25 nin0)))
  have f19 := (P53.keep K2q (ninS P100 (ninS P99 nin0)))
  have f20 := (P54.keep K2q (ninS P100 (ninS P99 nin0)))
  have f21 := (P56.keep K2q (ninS P102 (ninS P101 nin0)))
  have f22 := (P58.keep K2q (ninS P102 (ninS P101 nin0)))
  have f23 := (P59.keep K2q (ninS P102 (ninS P101 nin0)))
  have f24 := (P60.keep K2q (ninS P104 (ninS P103 nin0)))
  have f25 := (P69.keep K2q (ninS P94 (ninS P93 nin0)))
  have f26 := (P73.keep K2q (ninS P98 (ninS P97 nin0)))
  have f27 := (P74.keep K2q (ninS P98 (ninS P97 nin0)))
  have f28 := (P75.keep K2q (ninS P94 (ninS P93 nin0)))
  have f29 := (P76.keep K2q (ninS P98 (ninS P97 nin0)))
  have f30 := (P80.keep K2q (ninS P106 (ninS P105 nin0)))
  have f31 := (P87.keep K2q (ninS P94 (ninS P93 nin0)))
  refine cP b S2 d18_29 (W 308 rfl) (W 309 rfl) (fun hZ => (own_selfP (z := yy3) (mvT hZ (W 172 rfl)) rfl (Cond.privateMethod_at (mvP hZ (W 310 rfl) (args := #[]))) (mvT hZ (W 309 rfl)) (by decide))) (W 310 rfl) (W 2 rfl) (W 311 rfl) (rm37_91 W S2.i R2_6 R2_9 R2_8 R2_7 R2_10 (P16.keep K2q) f3 P37 (P24.keep K2q) f4 f5 (P10.keep K2q) f6 (P12.keep K2q) f7 f8 f9 R2_5 R2_0 f10 f11 (P40.keep K2q) f12 f13 f14 (P44.keep K2q) f15 f16 (P47.keep K2q) f17 P49 f18 P51 (P52.keep K2q) f19 f20 (P55.keep K2q) f21 P57 f22 f23 f24 P61 P62 P63 P64 P65 P66 P67 P68 f25 P70 P71 P72 f26 f27 f28 f29 P77 P78 (P79.keep K2q) f30 P81 P82 P83 P84 P85 P86 f31 P88) (P24.keep K2q) (by decide) (lenOf pd_14 rfl) rfl [] rfl 0 (own_le rfl) rfl 32 rfl fun T32 L32 v32 X32 q32 => ?_
  obtain ⟨rfl, N32q, K32q, KF32q, R32_0, R32_1, R32_2, R32_3, R32_4, R32_5, R32_6, R32_7, R32_8, R32_9, R32_10⟩ := q32
  have S32 := S2.call X32 N32q K32q KF32q (allS (.inl (mI 6 rfl)) (allS (.inl (mI 5 rfl)) (allS (.inl (mI 4 rfl)) (allS (.inl (mI 3 rfl)) (allS (.inl (mI 2 rfl)) all0))))) (fallS (.inl (mI 16 rfl)) (fallS (.inl (mI 15 rfl)) (fallS (.inl (mI 14 rfl)) (fallS (.inl (mI 13 rfl)) (fallS (.inl (mI 12 rfl)) (fallS (.inl (mI 11 rfl)) (fallS (.inl (mI 10 rfl)) (fallS (.inl (mI 9 rfl)) (fallS (.inl (mI 8 rfl)) (fallS (.inl (mI 7 rfl)) (fallS (.inl (mI 6 rfl)) fall0))))))))))) (allS P86 (allS P84 (allS P62 (allS P57 (allS P49 all0)))))
  refine gRv ?_
  refine gAsW b S32 d18_32 rfl #[.val (.ref ra1), .val (.ref ra2), .val (.ref ra3), .val (.ref nw1_2), .val (.ref ra22), .unset, .unset, .unset] rfl 34 rfl ?_
  refine gAlW b S32 d18_34 rfl rfl 36 rfl ?_
  refine cV b S32 d18_36 (W 371 rfl) (W 372 rfl) (W 374 rfl) (W 373 rfl) (W 198 rfl) (W 375 rfl) (rm46_81 W S32.i P108) (P107.ext S32.o.2) (by decide) (lenOf pd_28 rfl) rfl [] rfl 0 (own_le rfl) rfl 39 rfl fun T33 L33 v33 X33 q33 => ?_
  obtain ⟨rfl, N33q, e33⟩ := q33
  have S33 := S32.same X33 N33q e33
  refine gRv ?_
  refine gGs b S33 d18_39 (W 380 rfl) P109 42 rfl fun T34 S34 => ?_
  refine gAc b S34 d18_42 rfl rfl true (decide_eq_true rfl) 45 (by decide) (by decide) ?_
  refine gAl b S34 d18_45 rfl rfl 46 rfl ?_
  refine gAl b S34 d18_46 rfl rfl 47 rfl ?_
  have f35 := ((P1.keep K2q (ninS P34 (ninS P35 nin0))).keep K32q (ninS P114 (ninS P113 (ninS P112 (ninS P111 (ninS P110 nin0))))))
  refine cI (xi := yy62) b S34 d18_47 (W 381 rfl) (W 127 rfl) (fun hZ => mvT hZ (W 128 rfl)) (W 129 rfl) (W 130 rfl) (W 131 rfl) (W 132 rfl) (W 98 rfl) (W 23 rfl) (W 133 rfl) (rm16_15 W S34.i f35) ((P0.keep K2q).keep K32q) (by decide) (lenOf pd_7 rfl) rfl [(.ref ra2)] rfl 1 (own_le rfl) rfl 52 rfl fun T36 L36 v36 X36 q36 => ?_
  obtain ⟨rfl, N36q, e36⟩ := q36
  have S36 := S34.same X36 N36q e36
  refine gRv ?_
  have f37 := ((P115.keep K2q (ninS P98 (ninS P97 nin0))).kf K32q KF32q (nofA (nS P70) (nofA (nS P70) (nofA (nS P81) (nofB (sn128 W) (nofB (sn127 W) (nofB (sn126 W) (nofB (sn125 W) (nofA (nS P68) (nofA (nS P67) (nofA (nS P67) (nofB (sn124 W) nof0))))))))))))
  refine cSU (owner := ss8) b S36 d18_52 (W 382 rfl) (W 383 rfl) (W 384 rfl) (W 9 rfl) (W 385 rfl) (rm47_82 W S36.i f37 ((P47.keep K2q).keep K32q) P49) (by decide) (lenOf pd_29 rfl) rfl [] rfl 0 (own_le rfl) rfl 55 rfl fun T38 L38 v38 X38 q38 => ?_
  obtain ⟨rfl, N38q, K38q, KF38q, R38_0⟩ := q38
  have S38 := S36.call X38 N38q K38q KF38q (allS (.inl (mI 2 rfl)) all0) (fallS (.inl (mI 17 rfl)) fall0) (allS P49 all0)
  refine gRn ?_
  refine gAl b S38 d18_55 rfl rfl 56 rfl ?_
  have f39 := (((P3.keep K2q (ninS P34 (ninS P35 nin0))).keep K32q (ninS P114 (ninS P113 (ninS P112 (ninS P111 (ninS P110 nin0)))))).keep K38q (ninS P110 nin0))
  have f40 := (((P0.keep K2q).keep K32q).keep K38q)
  refine cI (xi := yy61) b S38 d18_56 (W 312 rfl) (W 209 rfl) (fun hZ => mvT hZ (W 210 rfl)) (W 211 rfl) (W 212 rfl) (W 213 rfl) (W 214 rfl) (W 98 rfl) (W 23 rfl) (W 215 rfl) (rm23_27 W S38.i f39) f40 (by decide) (lenOf pd_16 rfl) rfl [] rfl 0 (own_le rfl) rfl 61 rfl fun T41 L41 v41 X41 q41 => ?_
  obtain ⟨nw1_41, rfl, N41q, K41q, KF41q, z41_nw1, R41_0, R41_1, R41_2, R41_3, R41_4⟩ := q41
  have S41 := S38.call X41 N41q K41q KF41q all0 fall0 all0
  refine gRv ?_
  refine gAsW b S41 d18_61 rfl #[.val (.ref ra1), .val (.ref ra2), .val (.ref ra3), .val (.ref nw1_2), .val (.ref ra22), .val (.ref nw1_41), .unset, .unset] rfl 63 rfl ?_
  refine gAlW b S41 d18_63 rfl rfl 65 rfl ?_
  have f42 := ((f35.keep K38q (ninS P110 nin0)).keep K41q nin0)
  refine cI (xi := yy56) b S41 d18_65 (W 313 rfl) (W 232 rfl) (fun hZ => mvT hZ (W 233 rfl)) (W 234 rfl) (W 235 rfl) (W 236 rfl) (W 237 rfl) (W 238 rfl) (W 218 rfl) (W 239 rfl) (rm25_29 W S41.i R41_1 R41_2 f42) R41_0 (by decide) (lenOf pd_11 rfl) rfl [] rfl 0 (own_le rfl) rfl 70 rfl fun T43 L43 v43 X43 q43 => ?_
  obtain ⟨rfl, N43q, e43⟩ := q43
  have S43 := S41.same X43 N43q e43
  refine gRv ?_
  refine gIfN b S43 d18_70 rfl 73 rfl ?_
  refine gAlW b S43 d18_73 rfl rfl 75 rfl ?_
  have f44 := ((((P4.keep K2q (ninS P34 (ninS P35 nin0))).keep K32q (ninS P114 (ninS P113 (ninS P112 (ninS P111 (ninS P110 nin0)))))).keep K38q (ninS P110 nin0)).keep K41q nin0)
  have f45 := ((((P5.keep K2q (ninS P117 (ninS P116 nin0))).keep K32q (ninS P122 (ninS P121 (ninS P120 (ninS P119 (ninS P118 nin0)))))).keep K38q (ninS P118 nin0)).keep K41q nin0)
  have x46 := (nL (tL (tL (tL (tL P5.lt K2q.1) K32q.1) K38q.1) z41_nw1))
  refine cI (xi := yy57) b S43 d18_75 (W 314 rfl) (W 244 rfl) (fun hZ => mvT hZ (W 245 rfl)) (W 246 rfl) (W 247 rfl) (W 248 rfl) (W 249 rfl) (W 238 rfl) (W 218 rfl) (W 250 rfl) (rm26_30 W S43.i R41_0 R41_2 (f39.keep K41q nin0) R41_4 R41_1 f42 f44 f45 (S38.ge z41_nw1) R41_3 x46) R41_0 (by decide) (lenOf pd_17 rfl) rfl [] rfl 0 (own_le rfl) rfl 80 rfl fun T47 L47 v47 X47 q47 => ?_
  obtain ⟨rfl, N47q, K47q, KF47q, R47_0, R47_1⟩ := q47
  have S47 := S43.call X47 N47q K47q KF47q (allS (.inr (S38.sz z41_nw1)) all0) (fallS (.inr (.inr (S38.sz z41_nw1))) (fallS (.inr (.inr (S38.sz z41_nw1))) fall0)) (allS (S38.ge z41_nw1) all0)
  refine gRv ?_
  have f48 := (((((P6.keep K2q).keep K32q).keep K38q).keep K41q).keep K47q)
  refine gCc b S47 d18_80 (W 388 rfl) (Ins.self f48) 83 rfl fun T49 S49 => ?_
  refine gAsW b S49 d18_83 rfl #[.val (.ref ra1), .val (.ref ra2), .val (.ref ra3), .val (.ref nw1_2), .val (.ref ra22), .val (.ref nw1_41), .val (.ref ra6), .unset] rfl 85 rfl ?_
  refine gAlW b S49 d18_85 rfl rfl 87 rfl ?_
  refine gIc b S49 d18_87 1 rfl 88 rfl ?_
  have x50 := (nS P102)
  have x51 := (nS P104)
  have x52 := (nS P106)
  have x53 := (nL (tL (tL (tL (tL P6.lt K2q.1) K32q.1) K38q.1) z41_nw1))
  have f54 := (((((P123.kf K2q KF2q (nofA P23 (nofA P23 (nofB (sn128 W) (nofB (sn127 W) (nofB (sn126 W) (nofA P23 nof0))))))).keep K32q (ninS (nS P94) (ninS x52 (ninS x51 (ninS x50 (ninS (nS P98) nin0)))))).keep K38q (ninS (nS P98) nin0)).keep K41q nin0).keep K47q (ninS x53 nin0))
  refine cSU (owner := ss8) b S49 d18_88 (W 382 rfl) (W 383 rfl) (W 384 rfl) (W 9 rfl) (W 385 rfl) (rm47_110 W S49.i f54 f48 P33) (by decide) (lenOf pd_29 rfl) rfl [] rfl 0 (own_le rfl) rfl 91 rfl fun T55 L55 v55 X55 q55 => ?_
  obtain ⟨rfl, N55q, K55q, KF55q, R55_0⟩ := q55
  have S55 := S49.call X55 N55q K55q KF55q (allS (.inl (mI 1 rfl)) all0) (fallS (.inl (mI 18 rfl)) fall0) (allS P33 all0)
  refine gRn ?_
  refine gGoto b S55 d18_91 63 (by decide) rfl ?_
  refine gAlW b S55 d18_63 rfl rfl 65 rfl ?_
  have f56 := (R47_0.keep K55q (ninS (nS x53) nin0))
  have f57 := ((R41_2.kf K47q KF47q (nofB (sn119 W) (nofB (sn103 W) nof0))).keep K55q (ninS (nS x53) nin0))
  have x58 := (nL (tL (tL (tL (tL P0.lt K2q.1) K32q.1) K38q.1) z41_nw1))
  have f59 := ((f42.keep K47q (ninS x58 nin0)).keep K55q (ninS P34 nin0))
  refine cI (xi := yy56) b S55 d18_65 (W 313 rfl) (W 232 rfl) (fun hZ => mvT hZ (W 233 rfl)) (W 234 rfl) (W 235 rfl) (W 236 rfl) (W 237 rfl) (W 238 rfl) (W 218 rfl) (W 239 rfl) (rm25_42 W S55.i f56 f57 f59) ((R41_0.keep K47q).keep K55q) (by decide) (lenOf pd_11 rfl) rfl [] rfl 0 (own_le rfl) rfl 70 rfl fun T60 L60 v60 X60 q60 => ?_
  obtain ⟨rfl, N60q, e60⟩ := q60
  have S60 := S55.same X60 N60q e60
  refine gRv ?_
  refine gIfY b S60 d18_70 rfl 94 (by decide) rfl ?_
  refine gAlW b S60 d18_94 rfl rfl 96 rfl ?_
  refine gAsW b S60 d18_96 rfl #[.val (.ref ra1), .val (.ref ra2), .val (.ref ra3), .val (.ref nw1_2), .val (.ref ra22), .val (.ref ra22), .val (.ref ra6), .unset] rfl 98 rfl ?_
  refine gAl b S60 d18_98 rfl rfl 99 rfl ?_
  have f61 := (((((R2_6.keep K32q).keep K38q).keep K41q).keep K47q).keep K55q)
  have x62 := (nS (nL (tL P46.lt z2_nw1)))
  have x63 := (nS (nL (tL P55.lt z2_nw1)))
  have x64 := (nS (nL (tL P60.lt z2_nw1)))
  have x65 := (nS (nL (tL P79.lt z2_nw1)))
  have x66 := (nS (nL (tL P40.lt z2_nw1)))
  have x67 := (nL (tL (tL (tL R2_6.lt K32q.1) K38q.1) z41_nw1))
  have x68 := (nS (nL (tL P6.lt z2_nw1)))
  have f69 := (((((R2_9.keep K32q (ninS x66 (ninS x65 (ninS x64 (ninS x63 (ninS x62 nin0)))))).keep K38q (ninS x62 nin0)).keep K41q nin0).keep K47q (ninS x67 nin0)).keep K55q (ninS x68 nin0))
  have f70 := (((((R2_8.keep K32q (ninS x66 (ninS x65 (ninS x64 (ninS x63 (ninS x62 nin0)))))).keep K38q (ninS x62 nin0)).keep K41q nin0).keep K47q (ninS x67 nin0)).keep K55q (ninS x68 nin0))
  have f71 := (((((R2_7.keep K32q (ninS x66 (ninS x65 (ninS x64 (ninS x63 (ninS x62 nin0)))))).keep K38q (ninS x62 nin0)).keep K41q nin0).keep K47q (ninS x67 nin0)).keep K55q (ninS x68 nin0))
  have x72 := (nS (nL (tL P46.lt z2_nw2)))
  have x73 := (nS (nL (tL P55.lt z2_nw2)))
  have x74 := (nS (nL (tL P60.lt z2_nw2)))
  have x75 := (nS (nL (tL P79.lt z2_nw2)))
  have x76 := (nS (nL (tL P40.lt z2_nw2)))
  have x77 := (nL (tL (tL (tL R2_10.lt K32q.1) K38q.1) z41_nw1))
  have x78 := (nS (nL (tL P6.lt z2_nw2)))
  have f79 := (((((R2_10.keep K32q (ninS x76 (ninS x75 (ninS x74 (ninS x73 (ninS x72 nin0)))))).keep K38q (ninS x72 nin0)).keep K41q nin0).keep K47q (ninS x77 nin0)).keep K55q (ninS x78 nin0))
  have f80 := ((((((P16.keep K2q).keep K32q).keep K38q).keep K41q).keep K47q).keep K55q)
  have x81 := (nS P101)
  have x82 := (nS P103)
  have x83 := (nS P105)
  have x84 := (nL (tL (tL (tL (tL P16.lt K2q.1) K32q.1) K38q.1) z41_nw1))
  have f85 := (((((R2_5.keep K32q (ninS (nS P93) (ninS x83 (ninS x82 (ninS x81 (ninS (nS P97) nin0)))))).keep K38q (ninS (nS P97) nin0)).keep K41q nin0).keep K47q (ninS x84 nin0)).keep K55q (ninS (nS P23) nin0))
  have x86 := (nS (nL (tL P16.lt z2_nw1)))
  refine cSU (owner := ss8) b S60 d18_99 (W 389 rfl) (W 390 rfl) (W 391 rfl) (W 9 rfl) (W 392 rfl) (rm48_83 W S60.i f61 f69 f70 f71 f79 f80 f85 P19 x86) (by decide) (lenOf pd_30 rfl) rfl [] rfl 0 (own_le rfl) rfl 102 rfl fun T87 L87 v87 X87 q87 => ?_
  obtain ⟨rfl, N87q, K87q, KF87q, R87_0⟩ := q87
  have S87 := S60.call X87 N87q K87q KF87q (allS (.inl (mI 0 rfl)) all0) (fallS (.inl (mI 0 rfl)) fall0) (allS P19 all0)
  refine gRn ?_
  refine gAlW b S87 d18_102 rfl rfl 104 rfl ?_
  have f88 := ((((((R2_4.keep K32q (ninS (nS P94) (ninS x52 (ninS x51 (ninS x50 (ninS (nS P98) nin0)))))).keep K38q (ninS (nS P98) nin0)).keep K41q nin0).keep K47q (ninS x53 nin0)).kf K55q KF55q (nofB (sn129 W) nof0)).keep K87q (ninS P23 nin0))
  have f89 := ((((((R2_3.keep K32q (ninS (nS P94) (ninS x52 (ninS x51 (ninS x50 (ninS (nS P98) nin0)))))).keep K38q (ninS (nS P98) nin0)).keep K41q nin0).keep K47q (ninS x53 nin0)).kf K55q KF55q (nofB (sn130 W) nof0)).keep K87q (ninS P23 nin0))
  have f90 := ((((((R2_2.keep K32q (ninS (nS P94) (ninS x52 (ninS x51 (ninS x50 (ninS (nS P98) nin0)))))).keep K38q (ninS (nS P98) nin0)).keep K41q nin0).keep K47q (ninS x53 nin0)).kf K55q KF55q (nofB (sn131 W) nof0)).keep K87q (ninS P23 nin0))
  have f91 := ((((((R2_1.keep K32q (ninS (nS P93) (ninS x83 (ninS x82 (ninS x81 (ninS (nS P97) nin0)))))).keep K38q (ninS (nS P97) nin0)).keep K41q nin0).keep K47q (ninS x84 nin0)).keep K55q (ninS (nS P23) nin0)).kf K87q KF87q (nofB (sn114 W) nof0))
  have f92 := ((((((R2_0.keep K32q (ninS (nS P93) (ninS x83 (ninS x82 (ninS x81 (ninS (nS P97) nin0)))))).keep K38q (ninS (nS P97) nin0)).keep K41q nin0).keep K47q (ninS x84 nin0)).keep K55q (ninS (nS P23) nin0)).kf K87q KF87q (nofB (sn115 W) nof0))
  have x93 := (nL (tL (tL (tL (tL P46.lt K2q.1) K32q.1) K38q.1) z41_nw1))
  have f94 := (((((R32_10.kf K38q KF38q (nofB (sn132 W) nof0)).keep K41q nin0).keep K47q (ninS x93 nin0)).keep K55q (ninS P98 nin0)).keep K87q (ninS P97 nin0))
  have x95 := (nL (tL (tL (tL (tL P55.lt K2q.1) K32q.1) K38q.1) z41_nw1))
  have f96 := (((((R32_9.keep K38q (ninS P67 nin0)).keep K41q nin0).keep K47q (ninS x95 nin0)).keep K55q (ninS P102 nin0)).keep K87q (ninS P101 nin0))
  have f97 := (((((R32_8.keep K38q (ninS P67 nin0)).keep K41q nin0).keep K47q (ninS x95 nin0)).keep K55q (ninS P102 nin0)).keep K87q (ninS P101 nin0))
  have x98 := (nL (tL (tL (tL (tL P60.lt K2q.1) K32q.1) K38q.1) z41_nw1))
  have f99 := (((((R32_7.keep K38q (ninS P68 nin0)).keep K41q nin0).keep K47q (ninS x98 nin0)).keep K55q (ninS P104 nin0)).keep K87q (ninS P103 nin0))
  have f100 := (((((R32_6.kf K38q KF38q (nofB (sn133 W) nof0)).keep K41q nin0).keep K47q (ninS x93 nin0)).keep K55q (ninS P98 nin0)).keep K87q (ninS P97 nin0))
  have f101 := (((((R32_5.kf K38q KF38q (nofB (sn129 W) nof0)).keep K41q nin0).keep K47q (ninS x93 nin0)).keep K55q (ninS P98 nin0)).keep K87q (ninS P97 nin0))
  have f102 := (((((R32_4.kf K38q KF38q (nofB (sn130 W) nof0)).keep K41q nin0).keep K47q (ninS x93 nin0)).keep K55q (ninS P98 nin0)).keep K87q (ninS P97 nin0))
  have f103 := (((((R32_3.kf K38q KF38q (nofB (sn131 W) nof0)).keep K41q nin0).keep K47q (ninS x93 nin0)).keep K55q (ninS P98 nin0)).keep K87q (ninS P97 nin0))
  have x104 := (nL (tL (tL (tL (tL P79.lt K2q.1) K32q.1) K38q.1) z41_nw1))
  have f105 := (((((R32_2.keep K38q (ninS P81 nin0)).keep K41q nin0).keep K47q (ninS x104 nin0)).keep K55q (ninS P106 nin0)).keep K87q (ninS P105 nin0))
  have x106 := (nL (tL (tL (tL (tL P40.lt K2q.1) K32q.1) K38q.1) z41_nw1))
  have f107 := (((((R32_1.keep K38q (ninS P70 nin0)).keep K41q nin0).keep K47q (ninS x106 nin0)).keep K55q (ninS P94 nin0)).keep K87q (ninS P93 nin0))
  have f108 := (((((R32_0.keep K38q (ninS P70 nin0)).keep K41q nin0).keep K47q (ninS x106 nin0)).keep K55q (ninS P94 nin0)).keep K87q (ninS P93 nin0))
  have f109 := ((((R38_0.keep K41q nin0).keep K47q (ninS x93 nin0)).keep K55q (ninS P98 nin0)).keep K87q (ninS P97 nin0))
  have f110 := (R55_0.keep K87q (ninS P23 nin0))
  exact gRetA b S87 d18_104 rfl rfl rfl (own_le rfl) (own_le rfl) ⟨rfl, S87.f, S87.k, S87.kf, R87_0, f88, f89, f90, f91, f92, f94, f96, f97, f99, f100, f101, f102, f103, f105, f107, f108, f109, f110⟩
def Q_rm55_112 (Z : State) (ra1 : Addr) (h0 : Heap) (n0 : Nat) (v : Option Value) (h : Heap) (L : List Loc) : Prop := v = some (.int (2 : Int32)) ∧ Fr n0 L ∧ h = h0
theorem rm55_112 (W : Wd a0 Z) (I0 : IO Z n0 h0) {ra1 : Addr} (P0 : Fld Z h0 ra1 ss0 ss25 "I" (.int (2 : Int32))) : OwnM l yy38 (.code yy38 k55_ 1 (some .int)) ⟨0, 0, 0, 0⟩ #[(.ref ra1)] Z h0 (Q_rm55_112 Z ra1 h0 n0) := by
  refine own_open [] [] #[.val (.ref ra1)] (plainFor_of_name pn_8) I0 ?_
  intro p e s m below meth c T b S0
  refine gAl b S0 d55_0 rfl rfl 1 rfl ?_
  refine gGf (host := "") b S0 d55_1 (.inl (W 427 rfl)) Via.refl P0 4 rfl fun T1 S1 => ?_
  exact gRetI b S1 d55_4 (own_le rfl) (own_le rfl) ⟨rfl, S1.f, rfl⟩
def Q_rm54_111 (Z : State) (ra1 ra2 : Addr) (ia3 : Int32) (h0 : Heap) (n0 : Nat) (v : Option Value) (h : Heap) (L : List Loc) : Prop := v = some (.int (2 : Int32)) ∧ Fr n0 L ∧ h = h0
theorem rm54_111 (W : Wd a0 Z) (I0 : IO Z n0 h0) {ra1 ra2 : Addr} {ia3 : Int32} (P0 : Exa Z h0 ra2 ss0) (P1 : Fld Z h0 ra2 ss0 ss25 "I" (.int (2 : Int32))) : OwnM l yy4 (.code yy4 k54_ 4 (some .int)) ⟨1, 0, 0, 12⟩ #[(.ref ra1), (.ref ra2), (.int (0 : Int32)), (.int ia3)] Z h0 (Q_rm54_111 Z ra1 ra2 ia3 h0 n0) := by
  refine own_open [] [] #[.val (.ref ra1), .val (.ref ra2), .val (.int (0 : Int32)), .val (.int ia3)] (plainFor_of_name pn_7) I0 ?_
  intro p e s m below meth c T b S0
  refine gIl b S0 d54_0 rfl 1 rfl ?_
  refine gIfY b S0 d54_1 rfl 15 (by decide) rfl ?_
  refine gAl b S0 d54_15 rfl rfl 16 rfl ?_
  refine cV b S0 d54_16 (W 422 rfl) (W 423 rfl) (W 425 rfl) (W 424 rfl) (W 140 rfl) (W 426 rfl) (rm55_112 W S0.i P1) P0 (by decide) (lenOf pd_7 rfl) rfl [] rfl 0 (own_le rfl) rfl 19 rfl fun T1 L1 v1 X1 q1 => ?_
  obtain ⟨rfl, N1q, e1⟩ := q1
  have S1 := S0.same X1 N1q e1
  refine gRv ?_
  exact gRetI b S1 d54_19 (own_le rfl) (own_le rfl) ⟨rfl, S1.f, rfl⟩
def Q_rm54_113 (Z : State) (ra1 ra2 : Addr) (ia3 : Int32) (h0 : Heap) (n0 : Nat) (v : Option Value) (h : Heap) (L : List Loc) : Prop := v = some (.int ((ia3 - (1 : Int32)) - (2 : Int32))) ∧ Fr n0 L ∧ h = h0
theorem rm54_113 (W : Wd a0 Z) (I0 : IO Z n0 h0) {ra1 ra2 : Addr} {ia3 : Int32} (P0 : Exa Z h0 ra2 ss0) (P1 : Fld Z h0 ra2 ss0 ss25 "I" (.int (2 : Int32))) : OwnM l yy4 (.code yy4 k54_ 4 (some .int)) ⟨1, 0, 0, 13⟩ #[(.ref ra1), (.ref ra2), (.int (1 : Int32)), (.int ia3)] Z h0 (Q_rm54_113 Z ra1 ra2 ia3 h0 n0) := by
  refine own_open [] [] #[.val (.ref ra1), .val (.ref ra2), .val (.int (1 : Int32)), .val (.int ia3)] (plainFor_of_name pn_7) I0 ?_
  intro p e s m below meth c T b S0
  refine gIl b S0 d54_0 rfl 1 rfl ?_
  refine gIfN b S0 d54_1 rfl 4 rfl ?_
  refine gIl b S0 d54_4 rfl 5 rfl ?_
  refine gIc b S0 d54_5 1 rfl 6 rfl ?_
  refine gSub b S0 d54_6 (ia3 - (1 : Int32)) rfl 7 rfl ?_
  refine gAl b S0 d54_7 rfl rfl 8 rfl ?_
  refine cV b S0 d54_8 (W 422 rfl) (W 423 rfl) (W 425 rfl) (W 424 rfl) (W 140 rfl) (W 426 rfl) (rm55_112 W S0.i P1) P0 (by decide) (lenOf pd_7 rfl) rfl [(.int (ia3 - (1 : Int32)))] rfl 1 (own_le rfl) rfl 11 rfl fun T1 L1 v1 X1 q1 => ?_
  obtain ⟨rfl, N1q, e1⟩ := q1
  have S1 := S0.same X1 N1q e1
  refine gRv ?_
  refine gSub b S1 d54_11 ((ia3 - (1 : Int32)) - (2 : Int32)) rfl 12 rfl ?_
  refine gGoto b S1 d54_12 19 (by decide) rfl ?_
  exact gRetI b S1 d54_19 (own_le rfl) (own_le rfl) ⟨rfl, S1.f, rfl⟩
def Q_rm55_115 (Z : State) (ra1 : Addr) (h0 : Heap) (n0 : Nat) (v : Option Value) (h : Heap) (L : List Loc) : Prop := v = some (.int (1 : Int32)) ∧ Fr n0 L ∧ h = h0
theorem rm55_115 (W : Wd a0 Z) (I0 : IO Z n0 h0) {ra1 : Addr} (P0 : Fld Z h0 ra1 ss0 ss25 "I" (.int (1 : Int32))) : OwnM l yy38 (.code yy38 k55_ 1 (some .int)) ⟨0, 0, 0, 0⟩ #[(.ref ra1)] Z h0 (Q_rm55_115 Z ra1 h0 n0) := by
  refine own_open [] [] #[.val (.ref ra1)] (plainFor_of_name pn_8) I0 ?_
  intro p e s m below meth c T b S0
  refine gAl b S0 d55_0 rfl rfl 1 rfl ?_
  refine gGf (host := "") b S0 d55_1 (.inl (W 427 rfl)) Via.refl P0 4 rfl fun T1 S1 => ?_
  exact gRetI b S1 d55_4 (own_le rfl) (own_le rfl) ⟨rfl, S1.f, rfl⟩
def Q_rm54_114 (Z : State) (ra1 ra2 : Addr) (ia3 : Int32) (h0 : Heap) (n0 : Nat) (v : Option Value) (h : Heap) (L : List Loc) : Prop := v = some (.int (1 : Int32)) ∧ Fr n0 L ∧ h = h0
theorem rm54_114 (W : Wd a0 Z) (I0 : IO Z n0 h0) {ra1 ra2 : Addr} {ia3 : Int32} (P0 : Exa Z h0 ra2 ss0) (P1 : Fld Z h0 ra2 ss0 ss25 "I" (.int (1 : Int32))) : OwnM l yy4 (.code yy4 k54_ 4 (some .int)) ⟨1, 0, 0, 12⟩ #[(.ref ra1), (.ref ra2), (.int (0 : Int32)), (.int ia3)] Z h0 (Q_rm54_114 Z ra1 ra2 ia3 h0 n0) := by
  refine own_open [] [] #[.val (.ref ra1), .val (.ref ra2), .val (.int (0 : Int32)), .val (.int ia3)] (plainFor_of_name pn_7) I0 ?_
  intro p e s m below meth c T b S0
  refine gIl b S0 d54_0 rfl 1 rfl ?_
  refine gIfY b S0 d54_1 rfl 15 (by decide) rfl ?_
  refine gAl b S0 d54_15 rfl rfl 16 rfl ?_
  refine cV b S0 d54_16 (W 422 rfl) (W 423 rfl) (W 425 rfl) (W 424 rfl) (W 140 rfl) (W 426 rfl) (rm55_115 W S0.i P1) P0 (by decide) (lenOf pd_7 rfl) rfl [] rfl 0 (own_le rfl) rfl 19 rfl fun T1 L1 v1 X1 q1 => ?_
  obtain ⟨rfl, N1q, e1⟩ := q1
  have S1 := S0.same X1 N1q e1
  refine gRv ?_
  exact gRetI b S1 d54_19 (own_le rfl) (own_le rfl) ⟨rfl, S1.f, rfl⟩
def Q_rm54_116 (Z : State) (ra1 ra2 : Addr) (ia3 : Int32) (h0 : Heap) (n0 : Nat) (v : Option Value) (h : Heap) (L : List Loc) : Prop := v = some (.int ((ia3 - (1 : Int32)) - (1 : Int32))) ∧ Fr n0 L ∧ h = h0
theorem rm54_116 (W : Wd a0 Z) (I0 : IO Z n0 h0) {ra1 ra2 : Addr} {ia3 : Int32} (P0 : Exa Z h0 ra2 ss0) (P1 : Fld Z h0 ra2 ss0 ss25 "I" (.int (1 : Int32))) : OwnM l yy4 (.code yy4 k54_ 4 (some .int)) ⟨1, 0, 0, 13⟩ #[(.ref ra1), (.ref ra2), (.int (1 : Int32)), (.int ia3)] Z h0 (Q_rm54_116 Z ra1 ra2 ia3 h0 n0) := by
  refine own_open [] [] #[.val (.ref ra1), .val (.ref ra2), .val (.int (1 : Int32)), .val (.int ia3)] (plainFor_of_name pn_7) I0 ?_
  intro p e s m below meth c T b S0
  refine gIl b S0 d54_0 rfl 1 rfl ?_
  refine gIfN b S0 d54_1 rfl 4 rfl ?_
  refine gIl b S0 d54_4 rfl 5 rfl ?_
  refine gIc b S0 d54_5 1 rfl 6 rfl ?_
  refine gSub b S0 d54_6 (ia3 - (1 : Int32)) rfl 7 rfl ?_
  refine gAl b S0 d54_7 rfl rfl 8 rfl ?_
  refine cV b S0 d54_8 (W 422 rfl) (W 423 rfl) (W 425 rfl) (W 424 rfl) (W 140 rfl) (W 426 rfl) (rm55_115 W S0.i P1) P0 (by decide) (lenOf pd_7 rfl) rfl [(.int (ia3 - (1 : Int32)))] rfl 1 (own_le rfl) rfl 11 rfl fun T1 L1 v1 X1 q1 => ?_
  obtain ⟨rfl, N1q, e1⟩ := q1
  have S1 := S0.same X1 N1q e1
  refine gRv ?_
  refine gSub b S1 d54_11 ((ia3 - (1 : Int32)) - (1 : Int32)) rfl 12 rfl ?_
  refine gGoto b S1 d54_12 19 (by decide) rfl ?_
  exact gRetI b S1 d54_19 (own_le rfl) (own_le rfl) ⟨rfl, S1.f, rfl⟩

end Own
def Q_rm0 (Z : State) (p1 : Int32) (p2 : Int32) (w : Addr) (k : ClassId) (ki : Addr) (ka : Addr) (kb : Addr) (oa : Addr) (ok : Addr) (h0 : Heap) (n0 : Nat) (v : Option Value) (h : Heap) (L : List Loc) : Prop := v = some (.int (1 : Int32)) ∧ Fr n0 L
set_option maxRecDepth 65536 in
set_option maxHeartbeats 40000000 in
theorem rm0 (l : Launch) (Z : State) (a0 : Array Value) (hw : ∀ d ∈ tables_1, d.before a0 Z = true) (ws : List Jvm.Cond) (p1 : Int32) (p2 : Int32) (w : Addr) (k : ClassId) (ki : Addr) (ka : Addr) (kb : Addr) (oa : Addr) (ok : Addr) (h0 : Heap) (n0 : Nat) (Z0 : n0 ≤ h0.size) (O0 : Old Z n0 h0) (P0 : Sta Z Z.heap ss2 ss30 ss7 (.ref w)) (P1 : Arv Z Z.heap w k (.object ss4) (0 : Int32) [] .null) (P2 : Sta Z Z.heap ss32 "ISOLATED" ss33 (.ref ki)) (P3 : Sta Z Z.heap ss32 "A" ss33 (.ref ka)) (P4 : Sta Z Z.heap ss32 "B" ss33 (.ref kb)) (P5 : Sta Z Z.heap ss29 "APPLIED" ss36 (.ref oa)) (P6 : Exa Z Z.heap oa ss29) (P7 : Fld Z Z.heap oa ss29 "kind" ss40 (.ref ok)) (P8 : Sta Z Z.heap ss41 "APPLIED" ss40 (.ref ok)) (P9 : ki ≠ ka) (P10 : ki ≠ kb) (P11 : ka ≠ kb) :
    MetFree l x (head1 (Jvm.Cond.code x code maxLocals ret :: ws) room_1) (fun a U => a = #[(.int p1), (.int p2)] ∧ Z.Warmed39 U.vm ∧ U.heap = h0) (fun _ _ _ _ _ => True) (fun _ U o U' => ∃ v L, o = .returned v ∧ Q_rm0 Z p1 p2 w k ki ka kb oa ok h0 n0 v U'.heap L ∧ ReturnedEndW U o U' L room_1.cells room_1.slots) := by
  refine MetFree.of_bodySF (plainFor_of_name pn_0) hisR ?_
  intro p e s m args below meth c s₁ Bd hml0 hP hK
  obtain ⟨rfl, hZ, hh⟩ := hP
  have hx := Bd.exec
  have hby := Bd.bytes
  have hml : c.maxLocals = 13 := hml0
  have hown : s.vm.findClass "com/example/graphwarden/graphwarden/chain/ChainPartitionBatchWeightPinLaw" = some m.cls := findClass_of_methodNamed Bd.named
  have hnm := (name_of_methodNamed Bd.named Bd.method).1
  have X0 : Stand p l e room_1 (s.setVm s.vm) m #[(.int p1), (.int p2)] below meth c s₁ [] 0 0 := Stand.of_body Bd
  have e0 : s₁.heap = h0 := by rw [← hh, Bd.state]; rfl
  have N0 := Fr.nil n0
  have W : Wd a0 Z := fun i _ q => hw _ (List.mem_of_getElem? q)
  have ef0 : entryFrame m #[(.int p1), (.int p2)] maxLocals = (mkF m 0 #[.val (.int p1), .val (.int p2), .unset, .unset, .unset, .unset, .unset, .unset, .unset, .unset, .unset, .unset, .unset] []) := by first | (simp [entryFrame, mkF, argsToLocals, Value.category, maxLocals]; done) | rfl
  refine own_fwd (B := s₁.setTop (mkF m 0 #[.val (.int p1), .val (.int p2), .unset, .unset, .unset, .unset, .unset, .unset, .unset, .unset, .unset, .unset, .unset] [])) (fun t k => castTop ef0 k) ?_
  have hS0 : s.Since s.vm 0 := (State.WarmedH.refl s).since 0
  have hk0 : 0 ≤ h0.size := Nat.zero_le _
  obtain ⟨T1, h1, X1, e1, E1, A1, D1, -, st1⟩ := newO X0 hx hZ hown (W 0 rfl) (W 1 rfl) (W 2 rfl) e0 (g := (mkF m 0 #[.val (.int p1), .val (.int p2), .unset, .unset, .unset, .unset, .unset, .unset, .unset, .unset, .unset, .unset, .unset] [])) rfl (hb hby at_0) (by decide) (by decide)
  obtain ⟨b1, g1⟩ : ∃ z, z = h0.size := ⟨_, rfl⟩
  rw [← g1] at A1 D1 st1
  have ge_b1 : n0 ≤ b1 := Nat.le_trans Z0 (Nat.le_of_eq g1.symm)
  have sz_b1 : h0.size ≤ b1 := Nat.le_trans (Keep.refl h0 []).1 (Nat.le_of_eq g1.symm)
  have Z2 : n0 ≤ h1.size := Nat.le_trans Z0 E1.1
  have hk2 : 0 ≤ h1.size := Nat.le_trans hk0 E1.1
  have K2 : Keep h0 h1 [] := (Keep.refl h0 []).ext E1
  have O2 : Old Z n0 h1 := O0.ext E1
  have F1_vertices : Fld Z h1 b1 ss8 ss31 ss18 .null := D1 (Or.inr (W 51 rfl)) (ty := (.object ss10)) (by decide)
  have F1_blocks : Fld Z h1 b1 ss8 ss22 ss18 .null := D1 (Or.inr (W 53 rfl)) (ty := (.object ss10)) (by decide)
  have F1_first : Fld Z h1 b1 ss8 ss24 "I" (.int (0 : Int32)) := D1 (Or.inl (W 55 rfl)) (ty := .int) (by decide)
  have F1_last : Fld Z h1 b1 ss8 "last" "I" (.int (0 : Int32)) := D1 (Or.inl (W 57 rfl)) (ty := .int) (by decide)
  have F1_isolated : Fld Z h1 b1 ss28 ss34 ss35 .null := D1 (Or.inr (W 137 rfl)) (ty := (.object ss1)) (by decide)
  refine own_fwd (B := T1.setTop (mkF m 3 #[.val (.int p1), .val (.int p2), .unset, .unset, .unset, .unset, .unset, .unset, .unset, .unset, .unset, .unset, .unset] [(.ref b1)])) (fun t k => st1 t k) ?_
  refine own_fwd (B := T1.setTop (mkF m 4 #[.val (.int p1), .val (.int p2), .unset, .unset, .unset, .unset, .unset, .unset, .unset, .unset, .unset, .unset, .unset] [(.ref b1), (.ref b1)])) (fun t k => XS.dup X1.here hx rfl (hb hby at_3) rfl rfl k) ?_
  obtain ⟨_, _, ⟨T3, L3, k3, n3⟩, -, X3, ⟨Lc3, hQ3, l3, y3, z3⟩, st3⟩ := X1.specialBack hx (y := yy2) rfl hown (mvT hZ (W 3 rfl)) (mvT hZ (W 4 rfl)) (mvT hZ (W 5 rfl)) (by decide) (backOf (W := 1) (rm1_1 W ⟨Z2, O2⟩ P0 A1 F1_vertices ge_b1 F1_blocks F1_first F1_last P2 P1 F1_isolated) hZ (W 5 rfl) (W 2 rfl) (by decide) (by decide)) (g := (mkF m 4 #[.val (.int p1), .val (.int p2), .unset, .unset, .unset, .unset, .unset, .unset, .unset, .unset, .unset, .unset, .unset] [(.ref b1), (.ref b1)])) rfl (by rw [hml]; rfl) (Steps.refl _) (a := b1) (argsL := []) (rest := [(.ref b1)]) (lenOf pd_0 rfl) rfl (by show 2 * 0 + _ ≤ _; exact Nat.le_of_eq rfl) (hb hby at_4) (fun _ _ => ⟨rfl, e1, (by decide : 1 + 8 ≤ _), (by decide : 5 + 30 ≤ _)⟩)
  dsimp only [Pt.U, Pt.locs, Pt.cells, Pt.slots] at X3 l3 y3 z3 st3 hQ3
  subst l3 y3 z3
  obtain ⟨nw1_3, nw2_3, nw3_3, nw4_3, nw5_3, nw6_3, nw7_3, nw8_3, kw1_3, kw2_3, kw3_3, rfl, N3q, K3q, KF3q, sz3_nw1, sz3_nw2, sz3_nw3, sz3_nw4, sz3_nw5, sz3_nw6, sz3_nw7, sz3_nw8, R3_0, R3_1, R3_2, R3_3, R3_4, R3_5, R3_6, R3_7, R3_8, R3_9, R3_10, R3_11, R3_12, R3_13, R3_14, R3_15, R3_16, R3_17, R3_18, R3_19, R3_20, R3_21, R3_22, R3_23, R3_24, R3_25, R3_26, R3_27, R3_28, R3_29, R3_30, R3_31, R3_32, R3_33, R3_34, R3_35, R3_36, R3_37, R3_38, R3_39, R3_40, R3_41, R3_42, R3_43, R3_44, R3_45, R3_46, R3_47, R3_48, R3_49, R3_50, R3_51, R3_52, R3_53, R3_54, R3_55, R3_56, R3_57, R3_58, R3_59, R3_60, R3_61⟩ := hQ3
  have N3 := Fr.app N0 N3q
  have ge_nw1_3 : n0 ≤ nw1_3 := Nat.le_trans Z2 sz3_nw1
  have sz_nw1_3 : h0.size ≤ nw1_3 := Nat.le_trans K2.1 sz3_nw1
  have ge_nw2_3 : n0 ≤ nw2_3 := Nat.le_trans Z2 sz3_nw2
  have sz_nw2_3 : h0.size ≤ nw2_3 := Nat.le_trans K2.1 sz3_nw2
  have ge_nw3_3 : n0 ≤ nw3_3 := Nat.le_trans Z2 sz3_nw3
  have sz_nw3_3 : h0.size ≤ nw3_3 := Nat.le_trans K2.1 sz3_nw3
  have ge_nw4_3 : n0 ≤ nw4_3 := Nat.le_trans Z2 sz3_nw4
  have sz_nw4_3 : h0.size ≤ nw4_3 := Nat.le_trans K2.1 sz3_nw4
  have ge_nw5_3 : n0 ≤ nw5_3 := Nat.le_trans Z2 sz3_nw5
  have sz_nw5_3 : h0.size ≤ nw5_3 := Nat.le_trans K2.1 sz3_nw5
  have ge_nw6_3 : n0 ≤ nw6_3 := Nat.le_trans Z2 sz3_nw6
  have sz_nw6_3 : h0.size ≤ nw6_3 := Nat.le_trans K2.1 sz3_nw6
  have ge_nw7_3 : n0 ≤ nw7_3 := Nat.le_trans Z2 sz3_nw7
  have sz_nw7_3 : h0.size ≤ nw7_3 := Nat.le_trans K2.1 sz3_nw7
  have ge_nw8_3 : n0 ≤ nw8_3 := Nat.le_trans Z2 sz3_nw8
  have sz_nw8_3 : h0.size ≤ nw8_3 := Nat.le_trans K2.1 sz3_nw8
  have Z4 : n0 ≤ T3.heap.size := Nat.le_trans Z2 K3q.1
  have hk4 : 0 ≤ T3.heap.size := Nat.le_trans hk2 K3q.1
  have K4 : Keep h0 T3.heap [] := K2.trans K3q (allS (Or.inr sz_b1) all0)
  have O4 : Old Z n0 T3.heap := O2.keep K3q (allS ge_b1 all0)
  refine own_fwd (B := T3.setTop (mkF m 7 #[.val (.int p1), .val (.int p2), .unset, .unset, .unset, .unset, .unset, .unset, .unset, .unset, .unset, .unset, .unset] [(.ref b1)])) (fun t k => st3.trans k) ?_
  refine own_fwd (B := T3.setTop (mkF m 8 #[.val (.int p1), .val (.int p2), .val (.ref b1), .unset, .unset, .unset, .unset, .unset, .unset, .unset, .unset, .unset, .unset] [])) (fun t k => XS.astoreN X3.here hx rfl (hb hby at_7) rfl rfl (l' := #[.val (.int p1), .val (.int p2), .val (.ref b1), .unset, .unset, .unset, .unset, .unset, .unset, .unset, .unset, .unset, .unset]) rfl k) ?_
  obtain ⟨T5, h5, X5, e5, E5, A5, D5, -, st5⟩ := newO X3 hx hZ hown (W 138 rfl) (W 139 rfl) (W 140 rfl) rfl (g := (mkF m 8 #[.val (.int p1), .val (.int p2), .val (.ref b1), .unset, .unset, .unset, .unset, .unset, .unset, .unset, .unset, .unset, .unset] [])) rfl (hb hby at_8) (by decide) (by decide)
  obtain ⟨b5, g5⟩ : ∃ z, z = T3.heap.size := ⟨_, rfl⟩
  rw [← g5] at A5 D5 st5
  have ge_b5 : n0 ≤ b5 := Nat.le_trans Z4 (Nat.le_of_eq g5.symm)
  have sz_b5 : h0.size ≤ b5 := Nat.le_trans K4.1 (Nat.le_of_eq g5.symm)
  have Z6 : n0 ≤ h5.size := Nat.le_trans Z4 E5.1
  have hk6 : 0 ≤ h5.size := Nat.le_trans hk4 E5.1
  have K6 : Keep h0 h5 [] := K4.ext E5
  have O6 : Old Z n0 h5 := O4.ext E5
  have F5_number : Fld Z h5 b5 ss0 ss17 "I" (.int (0 : Int32)) := D5 (Or.inl (W 154 rfl)) (ty := .int) (by decide)
  have F5_block : Fld Z h5 b5 ss0 ss14 "I" (.int (0 : Int32)) := D5 (Or.inl (W 156 rfl)) (ty := .int) (by decide)
  have F5_previous : Fld Z h5 b5 ss0 ss9 "I" (.int (0 : Int32)) := D5 (Or.inl (W 158 rfl)) (ty := .int) (by decide)
  have F5_next : Fld Z h5 b5 ss0 ss11 "I" (.int (0 : Int32)) := D5 (Or.inl (W 160 rfl)) (ty := .int) (by decide)
  have F5_name : Fld Z h5 b5 ss0 "name" ss38 .null := D5 (Or.inr (W 162 rfl)) (ty := (.object "java/lang/String")) (by decide)
  have F5_partition : Fld Z h5 b5 ss0 ss15 ss16 .null := D5 (Or.inl (W 189 rfl)) (ty := (.object ss8)) (by decide)
  have F5_degree : Fld Z h5 b5 ss0 ss25 "I" (.int (0 : Int32)) := D5 (Or.inl (W 387 rfl)) (ty := .int) (by decide)
  refine own_fwd (B := T5.setTop (mkF m 11 #[.val (.int p1), .val (.int p2), .val (.ref b1), .unset, .unset, .unset, .unset, .unset, .unset, .unset, .unset, .unset, .unset] [(.ref b5)])) (fun t k => st5 t k) ?_
  refine own_fwd (B := T5.setTop (mkF m 12 #[.val (.int p1), .val (.int p2), .val (.ref b1), .unset, .unset, .unset, .unset, .unset, .unset, .unset, .unset, .unset, .unset] [(.ref b5), (.ref b5)])) (fun t k => XS.dup X5.here hx rfl (hb hby at_11) rfl rfl k) ?_
  obtain ⟨b7, T7, h7, k7, X7, e7, E7, hS7, hk7', hZ7, hown7, st7⟩ := ldcS X5 hx hZ hown (W 141 rfl) (own_wS hw) e5 hS0 hk6 (g := (mkF m 12 #[.val (.int p1), .val (.int p2), .val (.ref b1), .unset, .unset, .unset, .unset, .unset, .unset, .unset, .unset, .unset, .unset] [(.ref b5), (.ref b5)])) rfl (hb hby at_12) (n := 4) (by decide) (by decide) (by decide) (by decide)
  have Z8 : n0 ≤ h7.size := Nat.le_trans Z6 E7.1
  have K8 : Keep h0 h7 [] := K6.ext E7
  have O8 : Old Z n0 h7 := O6.ext E7
  refine own_fwd (B := T7.setTop (mkF m 14 #[.val (.int p1), .val (.int p2), .val (.ref b1), .unset, .unset, .unset, .unset, .unset, .unset, .unset, .unset, .unset, .unset] [(.ref b7), (.ref b5), (.ref b5)])) (fun t k => st7 t k) ?_
  obtain ⟨_, _, ⟨T9, L9, k9, n9⟩, -, X9, ⟨Lc9, hQ9, l9, y9, z9⟩, st9⟩ := X7.specialBack hx (y := yy36) rfl hown7 (mvT hZ7 (W 149 rfl)) (mvT hZ7 (W 150 rfl)) (mvT hZ7 (W 151 rfl)) (by decide) (backOf (W := 1) (rm17_16 W ⟨Z8, O8⟩ (A5.ext E7) (F5_number.ext E7) ge_b5 (F5_block.ext E7) (F5_previous.ext E7) (F5_next.ext E7) (F5_name.ext E7)) hZ7 (W 151 rfl) (W 140 rfl) (by decide) (by decide)) (g := (mkF m 14 #[.val (.int p1), .val (.int p2), .val (.ref b1), .unset, .unset, .unset, .unset, .unset, .unset, .unset, .unset, .unset, .unset] [(.ref b7), (.ref b5), (.ref b5)])) rfl (by rw [hml]; rfl) (Steps.refl _) (a := b5) (argsL := [(.ref b7)]) (rest := [(.ref b5)]) (lenOf pd_10 rfl) rfl (by show 2 * 0 + _ ≤ _; exact Nat.le_of_eq rfl) (hb hby at_14) (fun _ _ => ⟨rfl, e7, (by decide : 12 + 0 ≤ _), (by decide : 50 + 0 ≤ _)⟩)
  dsimp only [Pt.U, Pt.locs, Pt.cells, Pt.slots] at X9 l9 y9 z9 st9 hQ9
  subst l9 y9 z9
  obtain ⟨rfl, N9q, K9q, KF9q, R9_0, R9_1, R9_2, R9_3, R9_4⟩ := hQ9
  have N9 := Fr.app N3 N9q
  have Z10 : n0 ≤ T9.heap.size := Nat.le_trans Z8 K9q.1
  have hk10 : k7 ≤ T9.heap.size := Nat.le_trans hk7' K9q.1
  have K10 : Keep h0 T9.heap [] := K8.trans K9q (allS (Or.inr sz_b5) all0)
  have O10 : Old Z n0 T9.heap := O8.keep K9q (allS ge_b5 all0)
  refine own_fwd (B := T9.setTop (mkF m 17 #[.val (.int p1), .val (.int p2), .val (.ref b1), .unset, .unset, .unset, .unset, .unset, .unset, .unset, .unset, .unset, .unset] [(.ref b5)])) (fun t k => st9.trans k) ?_
  refine own_fwd (B := T9.setTop (mkF m 18 #[.val (.int p1), .val (.int p2), .val (.ref b1), .val (.ref b5), .unset, .unset, .unset, .unset, .unset, .unset, .unset, .unset, .unset] [])) (fun t k => XS.astoreN X9.here hx rfl (hb hby at_17) rfl rfl (l' := #[.val (.int p1), .val (.int p2), .val (.ref b1), .val (.ref b5), .unset, .unset, .unset, .unset, .unset, .unset, .unset, .unset, .unset]) rfl k) ?_
  obtain ⟨T11, h11, X11, e11, E11, A11, D11, -, st11⟩ := newO X9 hx hZ7 hown7 (W 138 rfl) (W 139 rfl) (W 140 rfl) rfl (g := (mkF m 18 #[.val (.int p1), .val (.int p2), .val (.ref b1), .val (.ref b5), .unset, .unset, .unset, .unset, .unset, .unset, .unset, .unset, .unset] [])) rfl (hb hby at_18) (by decide) (by decide)
  obtain ⟨b11, g11⟩ : ∃ z, z = T9.heap.size := ⟨_, rfl⟩
  rw [← g11] at A11 D11 st11
  have ge_b11 : n0 ≤ b11 := Nat.le_trans Z10 (Nat.le_of_eq g11.symm)
  have sz_b11 : h0.size ≤ b11 := Nat.le_trans K10.1 (Nat.le_of_eq g11.symm)
  have Z12 : n0 ≤ h11.size := Nat.le_trans Z10 E11.1
  have hk12 : k7 ≤ h11.size := Nat.le_trans hk10 E11.1
  have K12 : Keep h0 h11 [] := K10.ext E11
  have O12 : Old Z n0 h11 := O10.ext E11
  have F11_number : Fld Z h11 b11 ss0 ss17 "I" (.int (0 : Int32)) := D11 (Or.inl (W 154 rfl)) (ty := .int) (by decide)
  have F11_block : Fld Z h11 b11 ss0 ss14 "I" (.int (0 : Int32)) := D11 (Or.inl (W 156 rfl)) (ty := .int) (by decide)
  have F11_previous : Fld Z h11 b11 ss0 ss9 "I" (.int (0 : Int32)) := D11 (Or.inl (W 158 rfl)) (ty := .int) (by decide)
  have F11_next : Fld Z h11 b11 ss0 ss11 "I" (.int (0 : Int32)) := D11 (Or.inl (W 160 rfl)) (ty := .int) (by decide)
  have F11_name : Fld Z h11 b11 ss0 "name" ss38 .null := D11 (Or.inr (W 162 rfl)) (ty := (.object "java/lang/String")) (by decide)
  have F11_partition : Fld Z h11 b11 ss0 ss15 ss16 .null := D11 (Or.inl (W 189 rfl)) (ty := (.object ss8)) (by decide)
  have F11_degree : Fld Z h11 b11 ss0 ss25 "I" (.int (0 : Int32)) := D11 (Or.inl (W 387 rfl)) (ty := .int) (by decide)
  refine own_fwd (B := T11.setTop (mkF m 21 #[.val (.int p1), .val (.int p2), .val (.ref b1), .val (.ref b5), .unset, .unset, .unset, .unset, .unset, .unset, .unset, .unset, .unset] [(.ref b11)])) (fun t k => st11 t k) ?_
  refine own_fwd (B := T11.setTop (mkF m 22 #[.val (.int p1), .val (.int p2), .val (.ref b1), .val (.ref b5), .unset, .unset, .unset, .unset, .unset, .unset, .unset, .unset, .unset] [(.ref b11), (.ref b11)])) (fun t k => XS.dup X11.here hx rfl (hb hby at_21) rfl rfl k) ?_
  obtain ⟨b13, T13, h13, k13, X13, e13, E13, hS13, hk13', hZ13, hown13, st13⟩ := ldcS X11 hx hZ7 hown7 (W 163 rfl) (own_wS hw) e11 hS7 hk12 (g := (mkF m 22 #[.val (.int p1), .val (.int p2), .val (.ref b1), .val (.ref b5), .unset, .unset, .unset, .unset, .unset, .unset, .unset, .unset, .unset] [(.ref b11), (.ref b11)])) rfl (hb hby at_22) (n := 4) (by decide) (by decide) (by decide) (by decide)
  have Z14 : n0 ≤ h13.size := Nat.le_trans Z12 E13.1
  have K14 : Keep h0 h13 [] := K12.ext E13
  have O14 : Old Z n0 h13 := O12.ext E13
  refine own_fwd (B := T13.setTop (mkF m 24 #[.val (.int p1), .val (.int p2), .val (.ref b1), .val (.ref b5), .unset, .unset, .unset, .unset, .unset, .unset, .unset, .unset, .unset] [(.ref b13), (.ref b11), (.ref b11)])) (fun t k => st13 t k) ?_
  obtain ⟨_, _, ⟨T15, L15, k15, n15⟩, -, X15, ⟨Lc15, hQ15, l15, y15, z15⟩, st15⟩ := X13.specialBack hx (y := yy36) rfl hown13 (mvT hZ13 (W 149 rfl)) (mvT hZ13 (W 150 rfl)) (mvT hZ13 (W 151 rfl)) (by decide) (backOf (W := 1) (rm17_16 W ⟨Z14, O14⟩ (A11.ext E13) (F11_number.ext E13) ge_b11 (F11_block.ext E13) (F11_previous.ext E13) (F11_next.ext E13) (F11_name.ext E13)) hZ13 (W 151 rfl) (W 140 rfl) (by decide) (by decide)) (g := (mkF m 24 #[.val (.int p1), .val (.int p2), .val (.ref b1), .val (.ref b5), .unset, .unset, .unset, .unset, .unset, .unset, .unset, .unset, .unset] [(.ref b13), (.ref b11), (.ref b11)])) rfl (by rw [hml]; rfl) (Steps.refl _) (a := b11) (argsL := [(.ref b13)]) (rest := [(.ref b11)]) (lenOf pd_10 rfl) rfl (by show 2 * 0 + _ ≤ _; exact Nat.le_of_eq rfl) (hb hby at_24) (fun _ _ => ⟨rfl, e13, (by decide : 15 + 0 ≤ _), (by decide : 65 + 0 ≤ _)⟩)
  dsimp only [Pt.U, Pt.locs, Pt.cells, Pt.slots] at X15 l15 y15 z15 st15 hQ15
  subst l15 y15 z15
  obtain ⟨rfl, N15q, K15q, KF15q, R15_0, R15_1, R15_2, R15_3, R15_4⟩ := hQ15
  have N15 := Fr.app N9 N15q
  have Z16 : n0 ≤ T15.heap.size := Nat.le_trans Z14 K15q.1
  have hk16 : k13 ≤ T15.heap.size := Nat.le_trans hk13' K15q.1
  have K16 : Keep h0 T15.heap [] := K14.trans K15q (allS (Or.inr sz_b11) all0)
  have O16 : Old Z n0 T15.heap := O14.keep K15q (allS ge_b11 all0)
  refine own_fwd (B := T15.setTop (mkF m 27 #[.val (.int p1), .val (.int p2), .val (.ref b1), .val (.ref b5), .unset, .unset, .unset, .unset, .unset, .unset, .unset, .unset, .unset] [(.ref b11)])) (fun t k => st15.trans k) ?_
  refine own_fwd (B := T15.setTop (mkF m 29 #[.val (.int p1), .val (.int p2), .val (.ref b1), .val (.ref b5), .val (.ref b11), .unset, .unset, .unset, .unset, .unset, .unset, .unset, .unset] [])) (fun t k => XS.astore X15.here hx rfl (hb hby at_27) rfl rfl (l' := #[.val (.int p1), .val (.int p2), .val (.ref b1), .val (.ref b5), .val (.ref b11), .unset, .unset, .unset, .unset, .unset, .unset, .unset, .unset]) rfl k) ?_
  obtain ⟨T17, h17, X17, e17, E17, A17, D17, -, st17⟩ := newO X15 hx hZ13 hown13 (W 138 rfl) (W 139 rfl) (W 140 rfl) rfl (g := (mkF m 29 #[.val (.int p1), .val (.int p2), .val (.ref b1), .val (.ref b5), .val (.ref b11), .unset, .unset, .unset, .unset, .unset, .unset, .unset, .unset] [])) rfl (hb hby at_29) (by decide) (by decide)
  obtain ⟨b17, g17⟩ : ∃ z, z = T15.heap.size := ⟨_, rfl⟩
  rw [← g17] at A17 D17 st17
  have ge_b17 : n0 ≤ b17 := Nat.le_trans Z16 (Nat.le_of_eq g17.symm)
  have sz_b17 : h0.size ≤ b17 := Nat.le_trans K16.1 (Nat.le_of_eq g17.symm)
  have Z18 : n0 ≤ h17.size := Nat.le_trans Z16 E17.1
  have hk18 : k13 ≤ h17.size := Nat.le_trans hk16 E17.1
  have K18 : Keep h0 h17 [] := K16.ext E17
  have O18 : Old Z n0 h17 := O16.ext E17
  have F17_number : Fld Z h17 b17 ss0 ss17 "I" (.int (0 : Int32)) := D17 (Or.inl (W 154 rfl)) (ty := .int) (by decide)
  have F17_block : Fld Z h17 b17 ss0 ss14 "I" (.int (0 : Int32)) := D17 (Or.inl (W 156 rfl)) (ty := .int) (by decide)
  have F17_previous : Fld Z h17 b17 ss0 ss9 "I" (.int (0 : Int32)) := D17 (Or.inl (W 158 rfl)) (ty := .int) (by decide)
  have F17_next : Fld Z h17 b17 ss0 ss11 "I" (.int (0 : Int32)) := D17 (Or.inl (W 160 rfl)) (ty := .int) (by decide)
  have F17_name : Fld Z h17 b17 ss0 "name" ss38 .null := D17 (Or.inr (W 162 rfl)) (ty := (.object "java/lang/String")) (by decide)
  have F17_partition : Fld Z h17 b17 ss0 ss15 ss16 .null := D17 (Or.inl (W 189 rfl)) (ty := (.object ss8)) (by decide)
  have F17_degree : Fld Z h17 b17 ss0 ss25 "I" (.int (0 : Int32)) := D17 (Or.inl (W 387 rfl)) (ty := .int) (by decide)
  refine own_fwd (B := T17.setTop (mkF m 32 #[.val (.int p1), .val (.int p2), .val (.ref b1), .val (.ref b5), .val (.ref b11), .unset, .unset, .unset, .unset, .unset, .unset, .unset, .unset] [(.ref b17)])) (fun t k => st17 t k) ?_
  refine own_fwd (B := T17.setTop (mkF m 33 #[.val (.int p1), .val (.int p2), .val (.ref b1), .val (.ref b5), .val (.ref b11), .unset, .unset, .unset, .unset, .unset, .unset, .unset, .unset] [(.ref b17), (.ref b17)])) (fun t k => XS.dup X17.here hx rfl (hb hby at_32) rfl rfl k) ?_
  obtain ⟨b19, T19, h19, k19, X19, e19, E19, hS19, hk19', hZ19, hown19, st19⟩ := ldcS X17 hx hZ13 hown13 (W 164 rfl) (own_wS hw) e17 hS13 hk18 (g := (mkF m 33 #[.val (.int p1), .val (.int p2), .val (.ref b1), .val (.ref b5), .val (.ref b11), .unset, .unset, .unset, .unset, .unset, .unset, .unset, .unset] [(.ref b17), (.ref b17)])) rfl (hb hby at_33) (n := 4) (by decide) (by decide) (by decide) (by decide)
  have Z20 : n0 ≤ h19.size := Nat.le_trans Z18 E19.1
  have K20 : Keep h0 h19 [] := K18.ext E19
  have O20 : Old Z n0 h19 := O18.ext E19
  refine own_fwd (B := T19.setTop (mkF m 35 #[.val (.int p1), .val (.int p2), .val (.ref b1), .val (.ref b5), .val (.ref b11), .unset, .unset, .unset, .unset, .unset, .unset, .unset, .unset] [(.ref b19), (.ref b17), (.ref b17)])) (fun t k => st19 t k) ?_
  obtain ⟨_, _, ⟨T21, L21, k21, n21⟩, -, X21, ⟨Lc21, hQ21, l21, y21, z21⟩, st21⟩ := X19.specialBack hx (y := yy36) rfl hown19 (mvT hZ19 (W 149 rfl)) (mvT hZ19 (W 150 rfl)) (mvT hZ19 (W 151 rfl)) (by decide) (backOf (W := 1) (rm17_16 W ⟨Z20, O20⟩ (A17.ext E19) (F17_number.ext E19) ge_b17 (F17_block.ext E19) (F17_previous.ext E19) (F17_next.ext E19) (F17_name.ext E19)) hZ19 (W 151 rfl) (W 140 rfl) (by decide) (by decide)) (g := (mkF m 35 #[.val (.int p1), .val (.int p2), .val (.ref b1), .val (.ref b5), .val (.ref b11), .unset, .unset, .unset, .unset, .unset, .unset, .unset, .unset] [(.ref b19), (.ref b17), (.ref b17)])) rfl (by rw [hml]; rfl) (Steps.refl _) (a := b17) (argsL := [(.ref b19)]) (rest := [(.ref b17)]) (lenOf pd_10 rfl) rfl (by show 2 * 0 + _ ≤ _; exact Nat.le_of_eq rfl) (hb hby at_35) (fun _ _ => ⟨rfl, e19, (by decide : 18 + 0 ≤ _), (by decide : 80 + 0 ≤ _)⟩)
  dsimp only [Pt.U, Pt.locs, Pt.cells, Pt.slots] at X21 l21 y21 z21 st21 hQ21
  subst l21 y21 z21
  obtain ⟨rfl, N21q, K21q, KF21q, R21_0, R21_1, R21_2, R21_3, R21_4⟩ := hQ21
  have N21 := Fr.app N15 N21q
  have Z22 : n0 ≤ T21.heap.size := Nat.le_trans Z20 K21q.1
  have hk22 : k19 ≤ T21.heap.size := Nat.le_trans hk19' K21q.1
  have K22 : Keep h0 T21.heap [] := K20.trans K21q (allS (Or.inr sz_b17) all0)
  have O22 : Old Z n0 T21.heap := O20.keep K21q (allS ge_b17 all0)
  refine own_fwd (B := T21.setTop (mkF m 38 #[.val (.int p1), .val (.int p2), .val (.ref b1), .val (.ref b5), .val (.ref b11), .unset, .unset, .unset, .unset, .unset, .unset, .unset, .unset] [(.ref b17)])) (fun t k => st21.trans k) ?_
  refine own_fwd (B := T21.setTop (mkF m 40 #[.val (.int p1), .val (.int p2), .val (.ref b1), .val (.ref b5), .val (.ref b11), .val (.ref b17), .unset, .unset, .unset, .unset, .unset, .unset, .unset] [])) (fun t k => XS.astore X21.here hx rfl (hb hby at_38) rfl rfl (l' := #[.val (.int p1), .val (.int p2), .val (.ref b1), .val (.ref b5), .val (.ref b11), .val (.ref b17), .unset, .unset, .unset, .unset, .unset, .unset, .unset]) rfl k) ?_
  obtain ⟨T23, h23, X23, e23, E23, A23, D23, -, st23⟩ := newO X21 hx hZ19 hown19 (W 165 rfl) (W 22 rfl) (W 23 rfl) rfl (g := (mkF m 40 #[.val (.int p1), .val (.int p2), .val (.ref b1), .val (.ref b5), .val (.ref b11), .val (.ref b17), .unset, .unset, .unset, .unset, .unset, .unset, .unset] [])) rfl (hb hby at_40) (by decide) (by decide)
  obtain ⟨b23, g23⟩ : ∃ z, z = T21.heap.size := ⟨_, rfl⟩
  rw [← g23] at A23 D23 st23
  have ge_b23 : n0 ≤ b23 := Nat.le_trans Z22 (Nat.le_of_eq g23.symm)
  have sz_b23 : h0.size ≤ b23 := Nat.le_trans K22.1 (Nat.le_of_eq g23.symm)
  have Z24 : n0 ≤ h23.size := Nat.le_trans Z22 E23.1
  have hk24 : k19 ≤ h23.size := Nat.le_trans hk22 E23.1
  have K24 : Keep h0 h23 [] := K22.ext E23
  have O24 : Old Z n0 h23 := O22.ext E23
  have F23_modCount : Fld Z h23 b23 ss5 ss6 "I" (.int (0 : Int32)) := D23 (Or.inl (W 41 rfl)) (ty := .int) (by decide)
  have F23_elementData : Fld Z h23 b23 ss2 ss12 ss7 .null := D23 (Or.inl (W 44 rfl)) (ty := (.array (.object ss4))) (by decide)
  have F23_size : Fld Z h23 b23 ss2 ss3 "I" (.int (0 : Int32)) := D23 (Or.inl (W 103 rfl)) (ty := .int) (by decide)
  refine own_fwd (B := T23.setTop (mkF m 43 #[.val (.int p1), .val (.int p2), .val (.ref b1), .val (.ref b5), .val (.ref b11), .val (.ref b17), .unset, .unset, .unset, .unset, .unset, .unset, .unset] [(.ref b23)])) (fun t k => st23 t k) ?_
  refine own_fwd (B := T23.setTop (mkF m 44 #[.val (.int p1), .val (.int p2), .val (.ref b1), .val (.ref b5), .val (.ref b11), .val (.ref b17), .unset, .unset, .unset, .unset, .unset, .unset, .unset] [(.ref b23), (.ref b23)])) (fun t k => XS.dup X23.here hx rfl (hb hby at_43) rfl rfl k) ?_
  obtain ⟨_, _, ⟨T25, L25, k25, n25⟩, -, X25, ⟨Lc25, hQ25, l25, y25, z25⟩, st25⟩ := X23.specialBack hx (y := yy42) rfl hown19 (mvT hZ19 (W 166 rfl)) (mvT hZ19 (W 25 rfl)) (mvT hZ19 (W 26 rfl)) (by decide) (backOf (W := 1) (rm5_4 W ⟨Z24, O24⟩ A23 F23_modCount ge_b23 P0 F23_elementData) hZ19 (W 26 rfl) (W 23 rfl) (by decide) (by decide)) (g := (mkF m 44 #[.val (.int p1), .val (.int p2), .val (.ref b1), .val (.ref b5), .val (.ref b11), .val (.ref b17), .unset, .unset, .unset, .unset, .unset, .unset, .unset] [(.ref b23), (.ref b23)])) rfl (by rw [hml]; rfl) (Steps.refl _) (a := b23) (argsL := []) (rest := [(.ref b23)]) (lenOf pd_0 rfl) rfl (by show 2 * 0 + _ ≤ _; exact Nat.le_of_eq rfl) (hb hby at_44) (fun _ _ => ⟨rfl, e23, (by decide : 19 + 0 ≤ _), (by decide : 83 + 0 ≤ _)⟩)
  dsimp only [Pt.U, Pt.locs, Pt.cells, Pt.slots] at X25 l25 y25 z25 st25 hQ25
  subst l25 y25 z25
  obtain ⟨rfl, N25q, K25q, KF25q, R25_0, R25_1⟩ := hQ25
  have N25 := Fr.app N21 N25q
  have Z26 : n0 ≤ T25.heap.size := Nat.le_trans Z24 K25q.1
  have hk26 : k19 ≤ T25.heap.size := Nat.le_trans hk24 K25q.1
  have K26 : Keep h0 T25.heap [] := K24.trans K25q (allS (Or.inr sz_b23) all0)
  have O26 : Old Z n0 T25.heap := O24.keep K25q (allS ge_b23 all0)
  refine own_fwd (B := T25.setTop (mkF m 47 #[.val (.int p1), .val (.int p2), .val (.ref b1), .val (.ref b5), .val (.ref b11), .val (.ref b17), .unset, .unset, .unset, .unset, .unset, .unset, .unset] [(.ref b23)])) (fun t k => st25.trans k) ?_
  refine own_fwd (B := T25.setTop (mkF m 49 #[.val (.int p1), .val (.int p2), .val (.ref b1), .val (.ref b5), .val (.ref b11), .val (.ref b17), .val (.ref b23), .unset, .unset, .unset, .unset, .unset, .unset] [])) (fun t k => XS.astore X25.here hx rfl (hb hby at_47) rfl rfl (l' := #[.val (.int p1), .val (.int p2), .val (.ref b1), .val (.ref b5), .val (.ref b11), .val (.ref b17), .val (.ref b23), .unset, .unset, .unset, .unset, .unset, .unset]) rfl k) ?_
  obtain ⟨T27, h27, X27, e27, E27, A27, D27, -, st27⟩ := newO X25 hx hZ19 hown19 (W 165 rfl) (W 22 rfl) (W 23 rfl) rfl (g := (mkF m 49 #[.val (.int p1), .val (.int p2), .val (.ref b1), .val (.ref b5), .val (.ref b11), .val (.ref b17), .val (.ref b23), .unset, .unset, .unset, .unset, .unset, .unset] [])) rfl (hb hby at_49) (by decide) (by decide)
  obtain ⟨b27, g27⟩ : ∃ z, z = T25.heap.size := ⟨_, rfl⟩
  rw [← g27] at A27 D27 st27
  have ge_b27 : n0 ≤ b27 := Nat.le_trans Z26 (Nat.le_of_eq g27.symm)
  have sz_b27 : h0.size ≤ b27 := Nat.le_trans K26.1 (Nat.le_of_eq g27.symm)
  have Z28 : n0 ≤ h27.size := Nat.le_trans Z26 E27.1
  have hk28 : k19 ≤ h27.size := Nat.le_trans hk26 E27.1
  have K28 : Keep h0 h27 [] := K26.ext E27
  have O28 : Old Z n0 h27 := O26.ext E27
  have F27_modCount : Fld Z h27 b27 ss5 ss6 "I" (.int (0 : Int32)) := D27 (Or.inl (W 41 rfl)) (ty := .int) (by decide)
  have F27_elementData : Fld Z h27 b27 ss2 ss12 ss7 .null := D27 (Or.inl (W 44 rfl)) (ty := (.array (.object ss4))) (by decide)
  have F27_size : Fld Z h27 b27 ss2 ss3 "I" (.int (0 : Int32)) := D27 (Or.inl (W 103 rfl)) (ty := .int) (by decide)
  refine own_fwd (B := T27.setTop (mkF m 52 #[.val (.int p1), .val (.int p2), .val (.ref b1), .val (.ref b5), .val (.ref b11), .val (.ref b17), .val (.ref b23), .unset, .unset, .unset, .unset, .unset, .unset] [(.ref b27)])) (fun t k => st27 t k) ?_
  refine own_fwd (B := T27.setTop (mkF m 53 #[.val (.int p1), .val (.int p2), .val (.ref b1), .val (.ref b5), .val (.ref b11), .val (.ref b17), .val (.ref b23), .unset, .unset, .unset, .unset, .unset, .unset] [(.ref b27), (.ref b27)])) (fun t k => XS.dup X27.here hx rfl (hb hby at_52) rfl rfl k) ?_
  obtain ⟨_, _, ⟨T29, L29, k29, n29⟩, -, X29, ⟨Lc29, hQ29, l29, y29, z29⟩, st29⟩ := X27.specialBack hx (y := yy42) rfl hown19 (mvT hZ19 (W 166 rfl)) (mvT hZ19 (W 25 rfl)) (mvT hZ19 (W 26 rfl)) (by decide) (backOf (W := 1) (rm5_4 W ⟨Z28, O28⟩ A27 F27_modCount ge_b27 P0 F27_elementData) hZ19 (W 26 rfl) (W 23 rfl) (by decide) (by decide)) (g := (mkF m 53 #[.val (.int p1), .val (.int p2), .val (.ref b1), .val (.ref b5), .val (.ref b11), .val (.ref b17), .val (.ref b23), .unset, .unset, .unset, .unset, .unset, .unset] [(.ref b27), (.ref b27)])) rfl (by rw [hml]; rfl) (Steps.refl _) (a := b27) (argsL := []) (rest := [(.ref b27)]) (lenOf pd_0 rfl) rfl (by show 2 * 0 + _ ≤ _; exact Nat.le_of_eq rfl) (hb hby at_53) (fun _ _ => ⟨rfl, e27, (by decide : 20 + 0 ≤ _), (by decide : 86 + 0 ≤ _)⟩)
  dsimp only [Pt.U, Pt.locs, Pt.cells, Pt.slots] at X29 l29 y29 z29 st29 hQ29
  subst l29 y29 z29
  obtain ⟨rfl, N29q, K29q, KF29q, R29_0, R29_1⟩ := hQ29
  have N29 := Fr.app N25 N29q
  have Z30 : n0 ≤ T29.heap.size := Nat.le_trans Z28 K29q.1
  have hk30 : k19 ≤ T29.heap.size := Nat.le_trans hk28 K29q.1
  have K30 : Keep h0 T29.heap [] := K28.trans K29q (allS (Or.inr sz_b27) all0)
  have O30 : Old Z n0 T29.heap := O28.keep K29q (allS ge_b27 all0)
  refine own_fwd (B := T29.setTop (mkF m 56 #[.val (.int p1), .val (.int p2), .val (.ref b1), .val (.ref b5), .val (.ref b11), .val (.ref b17), .val (.ref b23), .unset, .unset, .unset, .unset, .unset, .unset] [(.ref b27)])) (fun t k => st29.trans k) ?_
  refine own_fwd (B := T29.setTop (mkF m 58 #[.val (.int p1), .val (.int p2), .val (.ref b1), .val (.ref b5), .val (.ref b11), .val (.ref b17), .val (.ref b23), .val (.ref b27), .unset, .unset, .unset, .unset, .unset] [])) (fun t k => XS.astore X29.here hx rfl (hb hby at_56) rfl rfl (l' := #[.val (.int p1), .val (.int p2), .val (.ref b1), .val (.ref b5), .val (.ref b11), .val (.ref b17), .val (.ref b23), .val (.ref b27), .unset, .unset, .unset, .unset, .unset]) rfl k) ?_
  refine own_fwd (B := T29.setTop (mkF m 60 #[.val (.int p1), .val (.int p2), .val (.ref b1), .val (.ref b5), .val (.ref b11), .val (.ref b17), .val (.ref b23), .val (.ref b27), .unset, .unset, .unset, .unset, .unset] [(.ref b27)])) (fun t k => XS.aload X29.here hx rfl (hb hby at_58) rfl rfl k) ?_
  refine own_fwd (B := T29.setTop (mkF m 61 #[.val (.int p1), .val (.int p2), .val (.ref b1), .val (.ref b5), .val (.ref b11), .val (.ref b17), .val (.ref b23), .val (.ref b27), .unset, .unset, .unset, .unset, .unset] [(.ref b5), (.ref b27)])) (fun t k => XS.aloadN X29.here hx rfl (hb hby at_60) rfl rfl k) ?_
  have f32 := (F27_size.kf K29q KF29q (nofB (sn5 W) (nofB (sn4 W) nof0)))
  have f33 := ((((((((((((A5.ext E7).keep K9q).ext E11).ext E13).keep K15q).ext E17).ext E19).keep K21q).ext E23).keep K25q).ext E27).keep K29q)
  obtain ⟨cq31, kq31, q31a, q31b, q31c⟩ := isOf hZ19 rfl (A27.keep K29q)
  obtain ⟨_, _, ⟨T31, L31, k31, n31⟩, -, X31, ⟨Lc31, hQ31, l31, y31, z31⟩, st31⟩ := X29.interfaceBack hx (xi := yy58) (y := yy43) hown19 (mvT hZ19 (W 167 rfl)) (mvT hZ19 (W 92 rfl)) (mvT hZ19 (W 93 rfl)) (mvT hZ19 (W 94 rfl)) (mvT hZ19 (W 95 rfl)) (mvT hZ19 (W 96 rfl)) (mvT hZ19 (W 97 rfl)) (mvT hZ19 (W 98 rfl)) (by decide) (backOf (W := 0) (rm11_17 W ⟨Z30, O30⟩ R29_0 (A27.keep K29q) ge_b27 R29_1 f32 P1 P0 f33) hZ19 (W 99 rfl) (W 23 rfl) (by decide) (by decide)) q31a q31b q31c (g := (mkF m 61 #[.val (.int p1), .val (.int p2), .val (.ref b1), .val (.ref b5), .val (.ref b11), .val (.ref b17), .val (.ref b23), .val (.ref b27), .unset, .unset, .unset, .unset, .unset] [(.ref b5), (.ref b27)])) rfl (by rw [hml]; rfl) (Steps.refl _) (argsL := [(.ref b5)]) (rest := []) (lenOf pd_6 rfl) rfl (by show 2 * 0 + _ ≤ _; exact Nat.le_of_eq rfl) (hb hby at_61) (fun _ _ => ⟨rfl, rfl, (by decide : 20 + 1 ≤ _), (by decide : 86 + 10 ≤ _)⟩)
  dsimp only [Pt.U, Pt.locs, Pt.cells, Pt.slots] at X31 l31 y31 z31 st31 hQ31
  subst l31 y31 z31
  obtain ⟨nw1_31, kw1_31, rfl, N31q, K31q, KF31q, sz31_nw1, R31_0, R31_1, R31_2, R31_3, R31_4⟩ := hQ31
  have N31 := Fr.app N29 N31q
  have ge_nw1_31 : n0 ≤ nw1_31 := Nat.le_trans Z30 sz31_nw1
  have sz_nw1_31 : h0.size ≤ nw1_31 := Nat.le_trans K30.1 sz31_nw1
  have Z34 : n0 ≤ T31.heap.size := Nat.le_trans Z30 K31q.1
  have hk34 : k19 ≤ T31.heap.size := Nat.le_trans hk30 K31q.1
  have K34 : Keep h0 T31.heap [] := K30.trans K31q (allS (Or.inr sz_b27) all0)
  have O34 : Old Z n0 T31.heap := O30.keep K31q (allS ge_b27 all0)
  refine own_fwd (B := T31.setTop (mkF m 66 #[.val (.int p1), .val (.int p2), .val (.ref b1), .val (.ref b5), .val (.ref b11), .val (.ref b17), .val (.ref b23), .val (.ref b27), .unset, .unset, .unset, .unset, .unset] [(.int (1 : Int32))])) (fun t k => st31.trans k) ?_
  refine own_fwd (B := T31.setTop (mkF m 67 #[.val (.int p1), .val (.int p2), .val (.ref b1), .val (.ref b5), .val (.ref b11), .val (.ref b17), .val (.ref b23), .val (.ref b27), .unset, .unset, .unset, .unset, .unset] [])) (fun t k => XS.pop X31.here hx rfl (hb hby at_66) rfl rfl k) ?_
  refine own_fwd (B := T31.setTop (mkF m 68 #[.val (.int p1), .val (.int p2), .val (.ref b1), .val (.ref b5), .val (.ref b11), .val (.ref b17), .val (.ref b23), .val (.ref b27), .unset, .unset, .unset, .unset, .unset] [(.ref b1)])) (fun t k => XS.aloadN X31.here hx rfl (hb hby at_67) rfl rfl k) ?_
  refine own_fwd (B := T31.setTop (mkF m 69 #[.val (.int p1), .val (.int p2), .val (.ref b1), .val (.ref b5), .val (.ref b11), .val (.ref b17), .val (.ref b23), .val (.ref b27), .unset, .unset, .unset, .unset, .unset] [(.ref b5), (.ref b1)])) (fun t k => XS.aloadN X31.here hx rfl (hb hby at_68) rfl rfl k) ?_
  refine own_fwd (B := T31.setTop (mkF m 71 #[.val (.int p1), .val (.int p2), .val (.ref b1), .val (.ref b5), .val (.ref b11), .val (.ref b17), .val (.ref b23), .val (.ref b27), .unset, .unset, .unset, .unset, .unset] [(.ref b23), (.ref b5), (.ref b1)])) (fun t k => XS.aload X31.here hx rfl (hb hby at_69) rfl rfl k) ?_
  have f36 := ((((A23.keep K25q).ext E27).keep K29q).keep K31q)
  have x37 := (nL (tL (tL A23.lt K25q.1) (Nat.le_of_eq g27.symm)))
  have f38 := ((((F23_size.kf K25q KF25q (nofB (sn5 W) (nofB (sn4 W) nof0))).ext E27).keep K29q (ninS x37 nin0)).keep K31q (ninS x37 nin0))
  have x39 := (nL (tL (tL A1.lt K3q.1) (Nat.le_of_eq g5.symm)))
  have x40 := (nL (tL (tL (tL (tL (tL A1.lt K3q.1) E5.1) E7.1) K9q.1) (Nat.le_of_eq g11.symm)))
  have x41 := (nL (tL (tL (tL (tL (tL (tL (tL (tL A1.lt K3q.1) E5.1) E7.1) K9q.1) E11.1) E13.1) K15q.1) (Nat.le_of_eq g17.symm)))
  have x42 := (nL (tL (tL (tL (tL (tL (tL (tL (tL (tL (tL (tL A1.lt K3q.1) E5.1) E7.1) K9q.1) E11.1) E13.1) K15q.1) E17.1) E19.1) K21q.1) (Nat.le_of_eq g23.symm)))
  have x43 := (nL (tL (tL (tL (tL (tL (tL (tL (tL (tL (tL (tL (tL (tL A1.lt K3q.1) E5.1) E7.1) K9q.1) E11.1) E13.1) K15q.1) E17.1) E19.1) K21q.1) E23.1) K25q.1) (Nat.le_of_eq g27.symm)))
  have f44 := ((((((((((((((R3_4.ext E5).ext E7).keep K9q (ninS x39 nin0)).ext E11).ext E13).keep K15q (ninS x40 nin0)).ext E17).ext E19).keep K21q (ninS x41 nin0)).ext E23).keep K25q (ninS x42 nin0)).ext E27).keep K29q (ninS x43 nin0)).keep K31q (ninS x43 nin0))
  have x45 := (nL (tL R3_13.lt (Nat.le_of_eq g5.symm)))
  have x46 := (nL (tL (tL (tL (tL R3_13.lt E5.1) E7.1) K9q.1) (Nat.le_of_eq g11.symm)))
  have x47 := (nL (tL (tL (tL (tL (tL (tL (tL R3_13.lt E5.1) E7.1) K9q.1) E11.1) E13.1) K15q.1) (Nat.le_of_eq g17.symm)))
  have x48 := (nL (tL (tL (tL (tL (tL (tL (tL (tL (tL (tL R3_13.lt E5.1) E7.1) K9q.1) E11.1) E13.1) K15q.1) E17.1) E19.1) K21q.1) (Nat.le_of_eq g23.symm)))
  have x49 := (nL (tL (tL (tL (tL (tL (tL (tL (tL (tL (tL (tL (tL R3_13.lt E5.1) E7.1) K9q.1) E11.1) E13.1) K15q.1) E17.1) E19.1) K21q.1) E23.1) K25q.1) (Nat.le_of_eq g27.symm)))
  have f50 := ((((((((((((((R3_20.ext E5).ext E7).keep K9q (ninS x45 nin0)).ext E11).ext E13).keep K15q (ninS x46 nin0)).ext E17).ext E19).keep K21q (ninS x47 nin0)).ext E23).keep K25q (ninS x48 nin0)).ext E27).keep K29q (ninS x49 nin0)).keep K31q (ninS x49 nin0))
  have x51 := (nL (tL (tL (tL A5.lt E7.1) K9q.1) (Nat.le_of_eq g11.symm)))
  have x52 := (nL (tL (tL (tL (tL (tL (tL A5.lt E7.1) K9q.1) E11.1) E13.1) K15q.1) (Nat.le_of_eq g17.symm)))
  have x53 := (nL (tL (tL (tL (tL (tL (tL (tL (tL (tL A5.lt E7.1) K9q.1) E11.1) E13.1) K15q.1) E17.1) E19.1) K21q.1) (Nat.le_of_eq g23.symm)))
  have x54 := (nL (tL (tL (tL (tL (tL (tL (tL (tL (tL (tL (tL A5.lt E7.1) K9q.1) E11.1) E13.1) K15q.1) E17.1) E19.1) K21q.1) E23.1) K25q.1) (Nat.le_of_eq g27.symm)))
  have f55 := (((((((((((R9_0.ext E11).ext E13).keep K15q (ninS x51 nin0)).ext E17).ext E19).keep K21q (ninS x52 nin0)).ext E23).keep K25q (ninS x53 nin0)).ext E27).keep K29q (ninS x54 nin0)).keep K31q (ninS x54 nin0))
  have f56 := (((((((((((((F5_partition.ext E7).kf K9q KF9q (nofB (sn96 W) (nofB (sn97 W) (nofB (sn98 W) (nofB (sn99 W) (nofB (sn101 W) nof0)))))).ext E11).ext E13).keep K15q (ninS x51 nin0)).ext E17).ext E19).keep K21q (ninS x52 nin0)).ext E23).keep K25q (ninS x53 nin0)).ext E27).keep K29q (ninS x54 nin0)).keep K31q (ninS x54 nin0))
  have f57 := ((((((((((((((R3_3.ext E5).ext E7).keep K9q (ninS x39 nin0)).ext E11).ext E13).keep K15q (ninS x40 nin0)).ext E17).ext E19).keep K21q (ninS x41 nin0)).ext E23).keep K25q (ninS x42 nin0)).ext E27).keep K29q (ninS x43 nin0)).keep K31q (ninS x43 nin0))
  have f58 := ((((((((((((((R3_9.ext E5).ext E7).keep K9q).ext E11).ext E13).keep K15q).ext E17).ext E19).keep K21q).ext E23).keep K25q).ext E27).keep K29q).keep K31q)
  have x59 := (nL (tL R3_9.lt (Nat.le_of_eq g5.symm)))
  have x60 := (nL (tL (tL (tL (tL R3_9.lt E5.1) E7.1) K9q.1) (Nat.le_of_eq g11.symm)))
  have x61 := (nL (tL (tL (tL (tL (tL (tL (tL R3_9.lt E5.1) E7.1) K9q.1) E11.1) E13.1) K15q.1) (Nat.le_of_eq g17.symm)))
  have x62 := (nL (tL (tL (tL (tL (tL (tL (tL (tL (tL (tL R3_9.lt E5.1) E7.1) K9q.1) E11.1) E13.1) K15q.1) E17.1) E19.1) K21q.1) (Nat.le_of_eq g23.symm)))
  have x63 := (nL (tL (tL (tL (tL (tL (tL (tL (tL (tL (tL (tL (tL R3_9.lt E5.1) E7.1) K9q.1) E11.1) E13.1) K15q.1) E17.1) E19.1) K21q.1) E23.1) K25q.1) (Nat.le_of_eq g27.symm)))
  have f64 := ((((((((((((((R3_10.ext E5).ext E7).keep K9q (ninS x59 nin0)).ext E11).ext E13).keep K15q (ninS x60 nin0)).ext E17).ext E19).keep K21q (ninS x61 nin0)).ext E23).keep K25q (ninS x62 nin0)).ext E27).keep K29q (ninS x63 nin0)).keep K31q (ninS x63 nin0))
  have f65 := ((((((((((((((R3_11.ext E5).ext E7).keep K9q (ninS x59 nin0)).ext E11).ext E13).keep K15q (ninS x60 nin0)).ext E17).ext E19).keep K21q (ninS x61 nin0)).ext E23).keep K25q (ninS x62 nin0)).ext E27).keep K29q (ninS x63 nin0)).keep K31q (ninS x63 nin0))
  have f66 := ((((((((((((((R3_27.ext E5).ext E7).keep K9q).ext E11).ext E13).keep K15q).ext E17).ext E19).keep K21q).ext E23).keep K25q).ext E27).keep K29q).keep K31q)
  have x67 := (nL (tL R3_27.lt (Nat.le_of_eq g5.symm)))
  have x68 := (nL (tL (tL (tL (tL R3_27.lt E5.1) E7.1) K9q.1) (Nat.le_of_eq g11.symm)))
  have x69 := (nL (tL (tL (tL (tL (tL (tL (tL R3_27.lt E5.1) E7.1) K9q.1) E11.1) E13.1) K15q.1) (Nat.le_of_eq g17.symm)))
  have x70 := (nL (tL (tL (tL (tL (tL (tL (tL (tL (tL (tL R3_27.lt E5.1) E7.1) K9q.1) E11.1) E13.1) K15q.1) E17.1) E19.1) K21q.1) (Nat.le_of_eq g23.symm)))
  have x71 := (nL (tL (tL (tL (tL (tL (tL (tL (tL (tL (tL (tL (tL R3_27.lt E5.1) E7.1) K9q.1) E11.1) E13.1) K15q.1) E17.1) E19.1) K21q.1) E23.1) K25q.1) (Nat.le_of_eq g27.symm)))
  have f72 := ((((((((((((((R3_29.ext E5).ext E7).keep K9q (ninS x67 nin0)).ext E11).ext E13).keep K15q (ninS x68 nin0)).ext E17).ext E19).keep K21q (ninS x69 nin0)).ext E23).keep K25q (ninS x70 nin0)).ext E27).keep K29q (ninS x71 nin0)).keep K31q (ninS x71 nin0))
  have f73 := ((((((((((((((R3_30.ext E5).ext E7).keep K9q (ninS x67 nin0)).ext E11).ext E13).keep K15q (ninS x68 nin0)).ext E17).ext E19).keep K21q (ninS x69 nin0)).ext E23).keep K25q (ninS x70 nin0)).ext E27).keep K29q (ninS x71 nin0)).keep K31q (ninS x71 nin0))
  have f74 := ((((((((((((((R3_28.ext E5).ext E7).keep K9q (ninS x67 nin0)).ext E11).ext E13).keep K15q (ninS x68 nin0)).ext E17).ext E19).keep K21q (ninS x69 nin0)).ext E23).keep K25q (ninS x70 nin0)).ext E27).keep K29q (ninS x71 nin0)).keep K31q (ninS x71 nin0))
  have x75 := (nS R3_45)
  have f76 := ((((((((((((((R3_14.ext E5).ext E7).keep K9q (ninS x45 nin0)).ext E11).ext E13).keep K15q (ninS x46 nin0)).ext E17).ext E19).keep K21q (ninS x47 nin0)).ext E23).keep K25q (ninS x48 nin0)).ext E27).keep K29q (ninS x49 nin0)).keep K31q (ninS x49 nin0))
  have f77 := ((((((((((((((R3_13.ext E5).ext E7).keep K9q).ext E11).ext E13).keep K15q).ext E17).ext E19).keep K21q).ext E23).keep K25q).ext E27).keep K29q).keep K31q)
  have x78 := (nS R3_46)
  have f79 := (((((((((((R9_1.ext E11).ext E13).keep K15q (ninS x51 nin0)).ext E17).ext E19).keep K21q (ninS x52 nin0)).ext E23).keep K25q (ninS x53 nin0)).ext E27).keep K29q (ninS x54 nin0)).keep K31q (ninS x54 nin0))
  have f80 := (((((((((((R9_2.ext E11).ext E13).keep K15q (ninS x51 nin0)).ext E17).ext E19).keep K21q (ninS x52 nin0)).ext E23).keep K25q (ninS x53 nin0)).ext E27).keep K29q (ninS x54 nin0)).keep K31q (ninS x54 nin0))
  have f81 := ((((((((((((((R3_17.ext E5).ext E7).keep K9q (ninS x45 nin0)).ext E11).ext E13).keep K15q (ninS x46 nin0)).ext E17).ext E19).keep K21q (ninS x47 nin0)).ext E23).keep K25q (ninS x48 nin0)).ext E27).keep K29q (ninS x49 nin0)).keep K31q (ninS x49 nin0))
  have f82 := (((((((((((R9_3.ext E11).ext E13).keep K15q (ninS x51 nin0)).ext E17).ext E19).keep K21q (ninS x52 nin0)).ext E23).keep K25q (ninS x53 nin0)).ext E27).keep K29q (ninS x54 nin0)).keep K31q (ninS x54 nin0))
  have f83 := ((((((((((((((R3_15.ext E5).ext E7).keep K9q (ninS x45 nin0)).ext E11).ext E13).keep K15q (ninS x46 nin0)).ext E17).ext E19).keep K21q (ninS x47 nin0)).ext E23).keep K25q (ninS x48 nin0)).ext E27).keep K29q (ninS x49 nin0)).keep K31q (ninS x49 nin0))
  have f84 := (((((((((((((((A1.keep K3q).ext E5).ext E7).keep K9q).ext E11).ext E13).keep K15q).ext E17).ext E19).keep K21q).ext E23).keep K25q).ext E27).keep K29q).keep K31q)
  obtain ⟨cq35, kq35, q35a, q35b, q35c⟩ := isOf hZ19 rfl f84
  obtain ⟨_, _, ⟨T35, L35, k35, n35⟩, -, X35, ⟨Lc35, hQ35, l35, y35, z35⟩, st35⟩ := X31.virtualBack hx (y := yy3) (z := yy3) hown19 (mvT hZ19 (W 169 rfl)) (mvT hZ19 (W 170 rfl)) (notFace_of_selects (args := #[]) (mvT hZ19 (W 172 rfl))) (mvT hZ19 (W 172 rfl)) (mvT hZ19 (W 171 rfl)) (by decide) (backOfWith (W := 0) (rm18_19 W ⟨Z34, O34⟩ f36 f38 f44 f50 f55 (f33.keep K31q) f56 ge_b5 f57 x39 f58 f64 f65 f66 f72 ge_nw6_3 f73 f74 P1 P0 x75 x59 x67 f76 f77 x45 x78 f79 f80 f81 f82 ge_nw3_3 f83 P5) hZ19 (W 173 rfl) (W 2 rfl) (by decide) (by decide)) q35a q35c (g := (mkF m 71 #[.val (.int p1), .val (.int p2), .val (.ref b1), .val (.ref b5), .val (.ref b11), .val (.ref b17), .val (.ref b23), .val (.ref b27), .unset, .unset, .unset, .unset, .unset] [(.ref b23), (.ref b5), (.ref b1)])) rfl (by rw [hml]; rfl) (Steps.refl _) (argsL := [(.ref b5), (.ref b23)]) (rest := []) (lenOf pd_14 rfl) rfl (by show 2 * 0 + _ ≤ _; exact Nat.le_of_eq rfl) (hb hby at_71) (fun _ _ => ⟨rfl, rfl, (by decide : 21 + 1 ≤ _), (by decide : 96 + 10 ≤ _)⟩)
  dsimp only [Pt.U, Pt.locs, Pt.cells, Pt.slots] at X35 l35 y35 z35 st35 hQ35
  subst l35 y35 z35
  obtain ⟨nw1_35, kw1_35, rfl, N35q, K35q, KF35q, sz35_nw1, R35_0, R35_1, R35_2, R35_3, R35_4, R35_5, R35_6, R35_7, R35_8, R35_9, R35_10, R35_11⟩ := hQ35
  have N35 := Fr.app N31 N35q
  have ge_nw1_35 : n0 ≤ nw1_35 := Nat.le_trans Z34 sz35_nw1
  have sz_nw1_35 : h0.size ≤ nw1_35 := Nat.le_trans K34.1 sz35_nw1
  have Z85 : n0 ≤ T35.heap.size := Nat.le_trans Z34 K35q.1
  have hk85 : k19 ≤ T35.heap.size := Nat.le_trans hk34 K35q.1
  have K85 : Keep h0 T35.heap [] := K34.trans K35q (allS (Or.inr sz_nw3_3) (allS (Or.inr sz_nw6_3) (allS (Or.inr sz_b5) all0)))
  have O85 : Old Z n0 T35.heap := O34.keep K35q (allS ge_nw3_3 (allS ge_nw6_3 (allS ge_b5 all0)))
  refine own_fwd (B := T35.setTop (mkF m 74 #[.val (.int p1), .val (.int p2), .val (.ref b1), .val (.ref b5), .val (.ref b11), .val (.ref b17), .val (.ref b23), .val (.ref b27), .unset, .unset, .unset, .unset, .unset] [(.ref oa)])) (fun t k => st35.trans k) ?_
  refine own_fwd (B := T35.setTop (mkF m 75 #[.val (.int p1), .val (.int p2), .val (.ref b1), .val (.ref b5), .val (.ref b11), .val (.ref b17), .val (.ref b23), .val (.ref b27), .unset, .unset, .unset, .unset, .unset] [])) (fun t k => XS.pop X35.here hx rfl (hb hby at_74) rfl rfl k) ?_
  refine own_fwd (B := T35.setTop (mkF m 76 #[.val (.int p1), .val (.int p2), .val (.ref b1), .val (.ref b5), .val (.ref b11), .val (.ref b17), .val (.ref b23), .val (.ref b27), .unset, .unset, .unset, .unset, .unset] [(.ref b1)])) (fun t k => XS.aloadN X35.here hx rfl (hb hby at_75) rfl rfl k) ?_
  refine own_fwd (B := T35.setTop (mkF m 78 #[.val (.int p1), .val (.int p2), .val (.ref b1), .val (.ref b5), .val (.ref b11), .val (.ref b17), .val (.ref b23), .val (.ref b27), .unset, .unset, .unset, .unset, .unset] [(.ref b11), (.ref b1)])) (fun t k => XS.aload X35.here hx rfl (hb hby at_76) rfl rfl k) ?_
  refine own_fwd (B := T35.setTop (mkF m 80 #[.val (.int p1), .val (.int p2), .val (.ref b1), .val (.ref b5), .val (.ref b11), .val (.ref b17), .val (.ref b23), .val (.ref b27), .unset, .unset, .unset, .unset, .unset] [(.ref b27), (.ref b11), (.ref b1)])) (fun t k => XS.aload X35.here hx rfl (hb hby at_78) rfl rfl k) ?_
  have f87 := (((A27.keep K29q).keep K31q).keep K35q)
  have f88 := (R31_1.keep K35q (ninS (nS x49) (ninS (nS x71) (ninS (nS x54) nin0))))
  have f89 := (R31_0.keep K35q (ninS (nS x49) (ninS (nS x71) (ninS (nS x54) nin0))))
  have f90 := (R31_2.keep K35q (ninS (nS x49) (ninS (nS x71) (ninS (nS x54) nin0))))
  have x91 := (nS (nL (tL (tL (tL (tL (tL (tL (tL (tL (tL (tL (tL (tL (tL A5.lt E7.1) K9q.1) E11.1) E13.1) K15q.1) E17.1) E19.1) K21q.1) E23.1) K25q.1) E27.1) K29q.1) sz31_nw1)))
  have x92 := (nS (nL (tL (tL (tL (tL (tL (tL (tL (tL (tL (tL (tL (tL (tL (tL R3_27.lt E5.1) E7.1) K9q.1) E11.1) E13.1) K15q.1) E17.1) E19.1) K21q.1) E23.1) K25q.1) E27.1) K29q.1) sz31_nw1)))
  have x93 := (nS (nL (tL (tL (tL (tL (tL (tL (tL (tL (tL (tL (tL (tL (tL (tL R3_13.lt E5.1) E7.1) K9q.1) E11.1) E13.1) K15q.1) E17.1) E19.1) K21q.1) E23.1) K25q.1) E27.1) K29q.1) sz31_nw1)))
  have f94 := (R31_3.keep K35q (ninS x93 (ninS x92 (ninS x91 nin0))))
  have x95 := (nL (tL A1.lt sz3_nw6))
  have x96 := (nL (tL A1.lt sz3_nw3))
  have f97 := (((((((((((((((R3_2.ext E5).ext E7).keep K9q (ninS x39 nin0)).ext E11).ext E13).keep K15q (ninS x40 nin0)).ext E17).ext E19).keep K21q (ninS x41 nin0)).ext E23).keep K25q (ninS x42 nin0)).ext E27).keep K29q (ninS x43 nin0)).keep K31q (ninS x43 nin0)).keep K35q (ninS x96 (ninS x95 (ninS x39 nin0))))
  have f98 := (((((((((((((((R3_5.ext E5).ext E7).keep K9q).ext E11).ext E13).keep K15q).ext E17).ext E19).keep K21q).ext E23).keep K25q).ext E27).keep K29q).keep K31q).keep K35q)
  have x99 := (nL (tL R3_5.lt (Nat.le_of_eq g5.symm)))
  have x100 := (nL (tL (tL (tL (tL R3_5.lt E5.1) E7.1) K9q.1) (Nat.le_of_eq g11.symm)))
  have x101 := (nL (tL (tL (tL (tL (tL (tL (tL R3_5.lt E5.1) E7.1) K9q.1) E11.1) E13.1) K15q.1) (Nat.le_of_eq g17.symm)))
  have x102 := (nL (tL (tL (tL (tL (tL (tL (tL (tL (tL (tL R3_5.lt E5.1) E7.1) K9q.1) E11.1) E13.1) K15q.1) E17.1) E19.1) K21q.1) (Nat.le_of_eq g23.symm)))
  have x103 := (nL (tL (tL (tL (tL (tL (tL (tL (tL (tL (tL (tL (tL R3_5.lt E5.1) E7.1) K9q.1) E11.1) E13.1) K15q.1) E17.1) E19.1) K21q.1) E23.1) K25q.1) (Nat.le_of_eq g27.symm)))
  have x104 := (nS R3_44)
  have x105 := (nS R3_35)
  have f106 := (((((((((((((((R3_7.ext E5).ext E7).keep K9q (ninS x99 nin0)).ext E11).ext E13).keep K15q (ninS x100 nin0)).ext E17).ext E19).keep K21q (ninS x101 nin0)).ext E23).keep K25q (ninS x102 nin0)).ext E27).keep K29q (ninS x103 nin0)).keep K31q (ninS x103 nin0)).keep K35q (ninS x105 (ninS x104 (ninS x99 nin0))))
  have f107 := (((((((((((((((R3_22.ext E5).ext E7).keep K9q).ext E11).ext E13).keep K15q).ext E17).ext E19).keep K21q).ext E23).keep K25q).ext E27).keep K29q).keep K31q).keep K35q)
  have x108 := (nL (tL R3_22.lt (Nat.le_of_eq g5.symm)))
  have x109 := (nL (tL (tL (tL (tL R3_22.lt E5.1) E7.1) K9q.1) (Nat.le_of_eq g11.symm)))
  have x110 := (nL (tL (tL (tL (tL (tL (tL (tL R3_22.lt E5.1) E7.1) K9q.1) E11.1) E13.1) K15q.1) (Nat.le_of_eq g17.symm)))
  have x111 := (nL (tL (tL (tL (tL (tL (tL (tL (tL (tL (tL R3_22.lt E5.1) E7.1) K9q.1) E11.1) E13.1) K15q.1) E17.1) E19.1) K21q.1) (Nat.le_of_eq g23.symm)))
  have x112 := (nL (tL (tL (tL (tL (tL (tL (tL (tL (tL (tL (tL (tL R3_22.lt E5.1) E7.1) K9q.1) E11.1) E13.1) K15q.1) E17.1) E19.1) K21q.1) E23.1) K25q.1) (Nat.le_of_eq g27.symm)))
  have x113 := (nS R3_47)
  have f114 := (((((((((((((((R3_24.ext E5).ext E7).keep K9q (ninS x108 nin0)).ext E11).ext E13).keep K15q (ninS x109 nin0)).ext E17).ext E19).keep K21q (ninS x110 nin0)).ext E23).keep K25q (ninS x111 nin0)).ext E27).keep K29q (ninS x112 nin0)).keep K31q (ninS x112 nin0)).keep K35q (ninS R3_39 (ninS x113 (ninS x108 nin0))))
  have f115 := (((((((((((((((R3_25.ext E5).ext E7).keep K9q (ninS x108 nin0)).ext E11).ext E13).keep K15q (ninS x109 nin0)).ext E17).ext E19).keep K21q (ninS x110 nin0)).ext E23).keep K25q (ninS x111 nin0)).ext E27).keep K29q (ninS x112 nin0)).keep K31q (ninS x112 nin0)).keep K35q (ninS R3_39 (ninS x113 (ninS x108 nin0))))
  have x116 := (nL (tL R3_32.lt (Nat.le_of_eq g5.symm)))
  have x117 := (nL (tL (tL (tL (tL R3_32.lt E5.1) E7.1) K9q.1) (Nat.le_of_eq g11.symm)))
  have x118 := (nL (tL (tL (tL (tL (tL (tL (tL R3_32.lt E5.1) E7.1) K9q.1) E11.1) E13.1) K15q.1) (Nat.le_of_eq g17.symm)))
  have x119 := (nL (tL (tL (tL (tL (tL (tL (tL (tL (tL (tL R3_32.lt E5.1) E7.1) K9q.1) E11.1) E13.1) K15q.1) E17.1) E19.1) K21q.1) (Nat.le_of_eq g23.symm)))
  have x120 := (nL (tL (tL (tL (tL (tL (tL (tL (tL (tL (tL (tL (tL R3_32.lt E5.1) E7.1) K9q.1) E11.1) E13.1) K15q.1) E17.1) E19.1) K21q.1) E23.1) K25q.1) (Nat.le_of_eq g27.symm)))
  have f121 := (((((((((((((((R3_32.ext E5).ext E7).keep K9q (ninS x116 nin0)).ext E11).ext E13).keep K15q (ninS x117 nin0)).ext E17).ext E19).keep K21q (ninS x118 nin0)).ext E23).keep K25q (ninS x119 nin0)).ext E27).keep K29q (ninS x120 nin0)).keep K31q (ninS x120 nin0)).keep K35q (ninS R3_57 (ninS R3_60 (ninS x116 nin0))))
  have f122 := (((((((((((((((R3_16.ext E5).ext E7).keep K9q (ninS x45 nin0)).ext E11).ext E13).keep K15q (ninS x46 nin0)).ext E17).ext E19).keep K21q (ninS x47 nin0)).ext E23).keep K25q (ninS x48 nin0)).ext E27).keep K29q (ninS x49 nin0)).keep K31q (ninS x49 nin0)).kf K35q KF35q (nofB (sn118 W) (nofB (sn57 W) (nofA x45 (nofA x45 (nofA x45 (nofA x45 (nofA x78 (nofA x78 (nofA x78 (nofA x45 nof0)))))))))))
  have f123 := (f50.kf K35q KF35q (nofB (sn112 W) (nofB (sn23 W) (nofA x45 (nofA x45 (nofA x45 (nofA x45 (nofA x78 (nofA x78 (nofA x78 (nofA x45 nof0)))))))))))
  have f124 := (f76.kf K35q KF35q (nofB (sn113 W) (nofB (sn46 W) (nofA x45 (nofA x45 (nofA x45 (nofA x45 (nofA x78 (nofA x78 (nofA x78 (nofA x45 nof0)))))))))))
  have f125 := (((((((((((((((R3_21.ext E5).ext E7).keep K9q (ninS x45 nin0)).ext E11).ext E13).keep K15q (ninS x46 nin0)).ext E17).ext E19).keep K21q (ninS x47 nin0)).ext E23).keep K25q (ninS x48 nin0)).ext E27).keep K29q (ninS x49 nin0)).keep K31q (ninS x49 nin0)).kf K35q KF35q (nofB (sn121 W) (nofB (sn26 W) (nofA x45 (nofA x45 (nofA x45 (nofA x45 (nofA x78 (nofA x78 (nofA x78 (nofA x45 nof0)))))))))))
  have f126 := (((((((((((((((R3_1.ext E5).ext E7).keep K9q (ninS x39 nin0)).ext E11).ext E13).keep K15q (ninS x40 nin0)).ext E17).ext E19).keep K21q (ninS x41 nin0)).ext E23).keep K25q (ninS x42 nin0)).ext E27).keep K29q (ninS x43 nin0)).keep K31q (ninS x43 nin0)).keep K35q (ninS x96 (ninS x95 (ninS x39 nin0))))
  have f127 := (f44.keep K35q (ninS x96 (ninS x95 (ninS x39 nin0))))
  have f128 := (((((((((((((((R3_0.ext E5).ext E7).keep K9q (ninS x39 nin0)).ext E11).ext E13).keep K15q (ninS x40 nin0)).ext E17).ext E19).keep K21q (ninS x41 nin0)).ext E23).keep K25q (ninS x42 nin0)).ext E27).keep K29q (ninS x43 nin0)).keep K31q (ninS x43 nin0)).keep K35q (ninS x96 (ninS x95 (ninS x39 nin0))))
  have f129 := (((((((((((((((R3_6.ext E5).ext E7).keep K9q (ninS x99 nin0)).ext E11).ext E13).keep K15q (ninS x100 nin0)).ext E17).ext E19).keep K21q (ninS x101 nin0)).ext E23).keep K25q (ninS x102 nin0)).ext E27).keep K29q (ninS x103 nin0)).keep K31q (ninS x103 nin0)).keep K35q (ninS x105 (ninS x104 (ninS x99 nin0))))
  have f130 := (((((((((((((((R3_23.ext E5).ext E7).keep K9q (ninS x108 nin0)).ext E11).ext E13).keep K15q (ninS x109 nin0)).ext E17).ext E19).keep K21q (ninS x110 nin0)).ext E23).keep K25q (ninS x111 nin0)).ext E27).keep K29q (ninS x112 nin0)).keep K31q (ninS x112 nin0)).keep K35q (ninS R3_39 (ninS x113 (ninS x108 nin0))))
  have x131 := (nS R3_58)
  have x132 := (nS R3_55)
  have x133 := (nS R3_37)
  have x134 := (nL (tL A1.lt sz3_nw8))
  have x135 := (nL (tL A1.lt sz3_nw4))
  have x136 := (nS (nL (tL A1.lt sz3_nw1)))
  have f137 := (f57.keep K35q (ninS x96 (ninS x95 (ninS x39 nin0))))
  have x138 := (nS R3_36)
  have f139 := (f65.keep K35q (ninS x138 (ninS x75 (ninS x59 nin0))))
  have x140 := (nS (nL (tL A1.lt sz3_nw2)))
  have x141 := (nS R3_38)
  have x142 := (nS R3_56)
  have x143 := (nS R3_60)
  have x144 := (nS (nL (tL (tL (tL (tL (tL (tL (tL (tL (tL (tL (tL (tL (tL (tL (tL (tL A1.lt K3q.1) E5.1) E7.1) K9q.1) E11.1) E13.1) K15q.1) E17.1) E19.1) K21q.1) E23.1) K25q.1) E27.1) K29q.1) K31q.1) sz35_nw1)))
  have x145 := (nS (nL (tL (tL (tL (tL (tL (tL (tL (tL (tL (tL (tL (tL (tL (tL (tL R3_22.lt E5.1) E7.1) K9q.1) E11.1) E13.1) K15q.1) E17.1) E19.1) K21q.1) E23.1) K25q.1) E27.1) K29q.1) K31q.1) sz35_nw1)))
  have x146 := (nS (nL (tL (tL (tL (tL (tL (tL (tL (tL (tL (tL (tL (tL (tL (tL (tL R3_32.lt E5.1) E7.1) K9q.1) E11.1) E13.1) K15q.1) E17.1) E19.1) K21q.1) E23.1) K25q.1) E27.1) K29q.1) K31q.1) sz35_nw1)))
  have x147 := (nS x108)
  have x148 := (nS x116)
  have x149 := (nL (tL (tL (tL A11.lt E13.1) K15q.1) (Nat.le_of_eq g17.symm)))
  have x150 := (nL (tL (tL (tL (tL (tL (tL A11.lt E13.1) K15q.1) E17.1) E19.1) K21q.1) (Nat.le_of_eq g23.symm)))
  have x151 := (nL (tL (tL (tL (tL (tL (tL (tL (tL A11.lt E13.1) K15q.1) E17.1) E19.1) K21q.1) E23.1) K25q.1) (Nat.le_of_eq g27.symm)))
  have f152 := (((((((((R15_0.ext E17).ext E19).keep K21q (ninS x149 nin0)).ext E23).keep K25q (ninS x150 nin0)).ext E27).keep K29q (ninS x151 nin0)).keep K31q (ninS x151 nin0)).keep K35q (ninS (nS x46) (ninS (nS x68) (ninS (nS x51) nin0))))
  have f153 := (((((((((((A11.ext E13).keep K15q).ext E17).ext E19).keep K21q).ext E23).keep K25q).ext E27).keep K29q).keep K31q).keep K35q)
  have f154 := (((((((((((F11_partition.ext E13).kf K15q KF15q (nofB (sn96 W) (nofB (sn97 W) (nofB (sn98 W) (nofB (sn99 W) (nofB (sn101 W) nof0)))))).ext E17).ext E19).keep K21q (ninS x149 nin0)).ext E23).keep K25q (ninS x150 nin0)).ext E27).keep K29q (ninS x151 nin0)).keep K31q (ninS x151 nin0)).keep K35q (ninS (nS x46) (ninS (nS x68) (ninS (nS x51) nin0))))
  have f155 := (f64.keep K35q (ninS x138 (ninS x75 (ninS x59 nin0))))
  have x156 := (nL (tL (tL (tL (tL (tL (tL (tL (tL (tL (tL (tL (tL (tL (tL (tL R3_27.lt E5.1) E7.1) K9q.1) E11.1) E13.1) K15q.1) E17.1) E19.1) K21q.1) E23.1) K25q.1) E27.1) K29q.1) K31q.1) sz35_nw1))
  have x157 := (nL (tL (tL (tL (tL (tL (tL (tL (tL (tL (tL (tL (tL (tL (tL (tL R3_9.lt E5.1) E7.1) K9q.1) E11.1) E13.1) K15q.1) E17.1) E19.1) K21q.1) E23.1) K25q.1) E27.1) K29q.1) K31q.1) sz35_nw1))
  have x158 := (nS (nL (tL (tL (tL (tL (tL (tL (tL (tL (tL (tL (tL A11.lt E13.1) K15q.1) E17.1) E19.1) K21q.1) E23.1) K25q.1) E27.1) K29q.1) K31q.1) sz35_nw1)))
  have f159 := (((((((((R15_1.ext E17).ext E19).keep K21q (ninS x149 nin0)).ext E23).keep K25q (ninS x150 nin0)).ext E27).keep K29q (ninS x151 nin0)).keep K31q (ninS x151 nin0)).keep K35q (ninS (nS x46) (ninS (nS x68) (ninS (nS x51) nin0))))
  have f160 := (((((((((R15_2.ext E17).ext E19).keep K21q (ninS x149 nin0)).ext E23).keep K25q (ninS x150 nin0)).ext E27).keep K29q (ninS x151 nin0)).keep K31q (ninS x151 nin0)).keep K35q (ninS (nS x46) (ninS (nS x68) (ninS (nS x51) nin0))))
  have f161 := (((((((((R15_3.ext E17).ext E19).keep K21q (ninS x149 nin0)).ext E23).keep K25q (ninS x150 nin0)).ext E27).keep K29q (ninS x151 nin0)).keep K31q (ninS x151 nin0)).keep K35q (ninS (nS x46) (ninS (nS x68) (ninS (nS x51) nin0))))
  have x162 := (nS x109)
  have x163 := (nS x117)
  have x164 := (nS (nL (tL (tL (tL (tL (tL (tL (tL (tL (tL (tL (tL (tL (tL (tL A5.lt E7.1) K9q.1) E11.1) E13.1) K15q.1) E17.1) E19.1) K21q.1) E23.1) K25q.1) E27.1) K29q.1) K31q.1) sz35_nw1)))
  have x165 := (nS (nL (tL (tL (tL (tL (tL (tL (tL (tL (tL (tL (tL (tL (tL (tL (tL R3_13.lt E5.1) E7.1) K9q.1) E11.1) E13.1) K15q.1) E17.1) E19.1) K21q.1) E23.1) K25q.1) E27.1) K29q.1) K31q.1) sz35_nw1)))
  have x166 := (nS x151)
  have x167 := (nL (tL (tL (tL A27.lt K29q.1) K31q.1) sz35_nw1))
  have x168 := (nS x120)
  have x169 := (nS x112)
  have f170 := (((((((((((F11_degree.ext E13).kf K15q KF15q (nofB (sn125 W) (nofB (sn126 W) (nofB (sn127 W) (nofB (sn128 W) (nofB (sn134 W) nof0)))))).ext E17).ext E19).keep K21q (ninS x149 nin0)).ext E23).keep K25q (ninS x150 nin0)).ext E27).keep K29q (ninS x151 nin0)).keep K31q (ninS x151 nin0)).keep K35q (ninS (nS x46) (ninS (nS x68) (ninS (nS x51) nin0))))
  have x171 := (nS (nL (tL (tL (tL (tL (tL (tL (tL (tL (tL (tL A11.lt E13.1) K15q.1) E17.1) E19.1) K21q.1) E23.1) K25q.1) E27.1) K29q.1) sz31_nw1)))
  have x172 := (nL (tL R31_3.lt sz35_nw1))
  have x173 := (nS (nL (tL (tL (tL (tL (tL (tL (tL (tL (tL (tL (tL (tL (tL (tL R3_32.lt E5.1) E7.1) K9q.1) E11.1) E13.1) K15q.1) E17.1) E19.1) K21q.1) E23.1) K25q.1) E27.1) K29q.1) sz31_nw1)))
  have x174 := (nS (nL (tL (tL (tL (tL (tL (tL (tL (tL (tL (tL (tL (tL (tL (tL R3_22.lt E5.1) E7.1) K9q.1) E11.1) E13.1) K15q.1) E17.1) E19.1) K21q.1) E23.1) K25q.1) E27.1) K29q.1) sz31_nw1)))
  have x175 := (nS (nL (tL (tL (tL (tL (tL (tL (tL (tL (tL (tL (tL (tL (tL (tL (tL A1.lt K3q.1) E5.1) E7.1) K9q.1) E11.1) E13.1) K15q.1) E17.1) E19.1) K21q.1) E23.1) K25q.1) E27.1) K29q.1) sz31_nw1)))
  have f176 := ((((((((((((((F5_degree.ext E7).kf K9q KF9q (nofB (sn125 W) (nofB (sn126 W) (nofB (sn127 W) (nofB (sn128 W) (nofB (sn134 W) nof0)))))).ext E11).ext E13).keep K15q (ninS x51 nin0)).ext E17).ext E19).keep K21q (ninS x52 nin0)).ext E23).keep K25q (ninS x53 nin0)).ext E27).keep K29q (ninS x54 nin0)).keep K31q (ninS x54 nin0)).kf K35q KF35q (nofA (nS x45) (nofA (nS x45) (nofB (sn128 W) (nofB (sn127 W) (nofB (sn126 W) (nofB (sn125 W) (nofA (nS x67) (nofA (nS x67) (nofA (nS x67) (nofB (sn124 W) nof0)))))))))))
  obtain ⟨cq86, kq86, q86a, q86b, q86c⟩ := isOf hZ19 rfl (f84.keep K35q)
  obtain ⟨_, _, ⟨T86, L86, k86, n86⟩, -, X86, ⟨Lc86, hQ86, l86, y86, z86⟩, st86⟩ := X35.virtualBack hx (y := yy3) (z := yy3) hown19 (mvT hZ19 (W 169 rfl)) (mvT hZ19 (W 170 rfl)) (notFace_of_selects (args := #[]) (mvT hZ19 (W 172 rfl))) (mvT hZ19 (W 172 rfl)) (mvT hZ19 (W 171 rfl)) (by decide) (backOfWith (W := 0) (rm18_24 W ⟨Z85, O85⟩ f87 f88 P0 f89 f90 f94 ((f33.keep K31q).keep K35q) R35_9 f97 R35_4 f98 f106 f107 f114 f115 f121 (f77.keep K35q) f122 P1 ge_nw3_3 R35_3 R35_2 R35_1 (nS x45) (f84.keep K35q) x96 x105 R3_39 R3_57 R35_0 f123 R35_5 f124 ge_b5 (nS x54) (nS x49) f125 P3 P9 P4 P10 f126 f127 f128 f129 f130 ge_nw4_3 R3_33 ge_nw8_3 x131 x132 x133 x134 x135 ge_b1 x136 f137 (f58.keep K35q) f139 (f66.keep K35q) R35_7 R35_6 R35_10 x140 x141 x142 (nS x95) R3_47 x143 x144 x145 x146 (nS x39) x147 x148 f152 f153 f154 ge_b11 x40 f155 R35_8 ge_nw6_3 R35_11 ge_nw1_35 x156 x157 x75 x60 x68 x158 f159 f160 f161 x162 x163 (nS x51) (nS x46) x59 x138 x67 R3_46 x164 x165 P5 x99 P6 P7 P8 x166 (nS x71) x167 x168 x169 (nS x43) f170 x93 x91 x171 x92 x172 x173 x174 x175 f176) hZ19 (W 173 rfl) (W 2 rfl) (by decide) (by decide)) q86a q86c (g := (mkF m 80 #[.val (.int p1), .val (.int p2), .val (.ref b1), .val (.ref b5), .val (.ref b11), .val (.ref b17), .val (.ref b23), .val (.ref b27), .unset, .unset, .unset, .unset, .unset] [(.ref b27), (.ref b11), (.ref b1)])) rfl (by rw [hml]; rfl) (Steps.refl _) (argsL := [(.ref b11), (.ref b27)]) (rest := []) (lenOf pd_14 rfl) rfl (by show 2 * 0 + _ ≤ _; exact Nat.le_of_eq rfl) (hb hby at_80) (fun _ _ => ⟨rfl, rfl, (by decide : 22 + 9 ≤ _), (by decide : 106 + 49 ≤ _)⟩)
  dsimp only [Pt.U, Pt.locs, Pt.cells, Pt.slots] at X86 l86 y86 z86 st86 hQ86
  subst l86 y86 z86
  obtain ⟨nw1_86, nw2_86, rfl, N86q, K86q, KF86q, sz86_nw1, sz86_nw2, R86_0, R86_1, R86_2, R86_3, R86_4, R86_5, R86_6, R86_7, R86_8, R86_9, R86_10, R86_11, R86_12, R86_13, R86_14, R86_15, R86_16, R86_17, R86_18, R86_19, R86_20, R86_21, R86_22, R86_23, R86_24, R86_25, R86_26, R86_27, R86_28, R86_29, R86_30, R86_31, R86_32, R86_33, R86_34, R86_35, R86_36, R86_37, R86_38, R86_39⟩ := hQ86
  have N86 := Fr.app N35 N86q
  have ge_nw1_86 : n0 ≤ nw1_86 := Nat.le_trans Z85 sz86_nw1
  have sz_nw1_86 : h0.size ≤ nw1_86 := Nat.le_trans K85.1 sz86_nw1
  have ge_nw2_86 : n0 ≤ nw2_86 := Nat.le_trans Z85 sz86_nw2
  have sz_nw2_86 : h0.size ≤ nw2_86 := Nat.le_trans K85.1 sz86_nw2
  have Z177 : n0 ≤ T86.heap.size := Nat.le_trans Z85 K86q.1
  have hk177 : k19 ≤ T86.heap.size := Nat.le_trans hk85 K86q.1
  have K177 : Keep h0 T86.heap [] := K85.trans K86q (allS (Or.inr sz_nw3_3) (allS (Or.inr sz_b5) (allS (Or.inr sz_b11) (allS (Or.inr sz_nw6_3) (allS (Or.inr sz_nw1_35) (allS (Or.inr sz_nw8_3) (allS (Or.inr sz_nw4_3) (allS (Or.inr sz_b1) all0))))))))
  have O177 : Old Z n0 T86.heap := O85.keep K86q (allS ge_nw3_3 (allS ge_b5 (allS ge_b11 (allS ge_nw6_3 (allS ge_nw1_35 (allS ge_nw8_3 (allS ge_nw4_3 (allS ge_b1 all0))))))))
  refine own_fwd (B := T86.setTop (mkF m 83 #[.val (.int p1), .val (.int p2), .val (.ref b1), .val (.ref b5), .val (.ref b11), .val (.ref b17), .val (.ref b23), .val (.ref b27), .unset, .unset, .unset, .unset, .unset] [(.ref oa)])) (fun t k => st86.trans k) ?_
  refine own_fwd (B := T86.setTop (mkF m 84 #[.val (.int p1), .val (.int p2), .val (.ref b1), .val (.ref b5), .val (.ref b11), .val (.ref b17), .val (.ref b23), .val (.ref b27), .unset, .unset, .unset, .unset, .unset] [])) (fun t k => XS.pop X86.here hx rfl (hb hby at_83) rfl rfl k) ?_
  refine own_fwd (B := T86.setTop (mkF m 85 #[.val (.int p1), .val (.int p2), .val (.ref b1), .val (.ref b5), .val (.ref b11), .val (.ref b17), .val (.ref b23), .val (.ref b27), .unset, .unset, .unset, .unset, .unset] [(.ref b1)])) (fun t k => XS.aloadN X86.here hx rfl (hb hby at_84) rfl rfl k) ?_
  refine own_fwd (B := T86.setTop (mkF m 87 #[.val (.int p1), .val (.int p2), .val (.ref b1), .val (.ref b5), .val (.ref b11), .val (.ref b17), .val (.ref b23), .val (.ref b27), .unset, .unset, .unset, .unset, .unset] [(.ref b17), (.ref b1)])) (fun t k => XS.aload X86.here hx rfl (hb hby at_85) rfl rfl k) ?_
  refine own_fwd (B := T86.setTop (mkF m 89 #[.val (.int p1), .val (.int p2), .val (.ref b1), .val (.ref b5), .val (.ref b11), .val (.ref b17), .val (.ref b23), .val (.ref b27), .unset, .unset, .unset, .unset, .unset] [(.ref b27), (.ref b17), (.ref b1)])) (fun t k => XS.aload X86.here hx rfl (hb hby at_87) rfl rfl k) ?_
  have f179 := (f88.keep K86q (ninS (nS x49) (ninS (nS x54) (ninS x166 (ninS (nS x71) (ninS x167 (ninS x168 (ninS x169 (ninS (nS x43) nin0)))))))))
  have f180 := (f89.keep K86q (ninS (nS x49) (ninS (nS x54) (ninS x166 (ninS (nS x71) (ninS x167 (ninS x168 (ninS x169 (ninS (nS x43) nin0)))))))))
  have f181 := (f90.keep K86q (ninS (nS x49) (ninS (nS x54) (ninS x166 (ninS (nS x71) (ninS x167 (ninS x168 (ninS x169 (ninS (nS x43) nin0)))))))))
  have f182 := (f94.keep K86q (ninS x93 (ninS x91 (ninS x171 (ninS x92 (ninS x172 (ninS x173 (ninS x174 (ninS x175 nin0)))))))))
  have f183 := (((f33.keep K31q).keep K35q).keep K86q)
  have x184 := (nS x164)
  have f185 := (R35_9.kf K86q KF86q (nofA (nS x45) (nofB (sn97 W) (nofB (sn98 W) (nofB (sn99 W) (nofA (nS x45) (nofA (nS x45) (nofA x51 (nofA (nS x67) (nofA (nS x67) (nofA x184 (nofA x51 (nofA x51 (nofA x51 (nofA x51 (nofA x148 (nofA x147 (nofA x147 (nofA (nS x39) (nofA (nS x39) (nofA x51 (nofB (sn132 W) nof0))))))))))))))))))))))
  have x186 := (nS x144)
  have f187 := (f97.kf K86q KF86q (nofA x96 (nofA x39 (nofA x39 (nofA x39 (nofA x96 (nofA x96 (nofA x40 (nofA x95 (nofA x95 (nofA x186 (nofA x40 (nofA x40 (nofA x40 (nofA x40 (nofA x134 (nofA x135 (nofA x135 (nofB (sn15 W) (nofB (sn16 W) (nofA x40 (nofA x39 nof0))))))))))))))))))))))
  have x188 := (nL (tL (tL (tL (tL (tL (tL (tL (tL (tL (tL (tL (tL (tL (tL (tL R3_5.lt E5.1) E7.1) K9q.1) E11.1) E13.1) K15q.1) E17.1) E19.1) K21q.1) E23.1) K25q.1) E27.1) K29q.1) K31q.1) sz35_nw1))
  have f189 := (f106.keep K86q (ninS x105 (ninS x99 (ninS x100 (ninS x104 (ninS x188 (ninS x132 (ninS x133 (ninS x136 nin0)))))))))
  have x190 := (nS x135)
  have x191 := (nS x145)
  have f192 := (f115.kf K86q KF86q (nofA R3_39 (nofA x108 (nofA x108 (nofA x108 (nofA R3_39 (nofA R3_39 (nofA x109 (nofA x113 (nofA x113 (nofA x191 (nofA x109 (nofA x109 (nofA x109 (nofA x109 (nofA x131 (nofB (sn40 W) (nofB (sn0 W) (nofA x190 (nofA x190 (nofA x109 (nofA x108 nof0))))))))))))))))))))))
  have x193 := (nL (tL (tL (tL (tL (tL (tL (tL (tL (tL (tL (tL (tL (tL (tL (tL A5.lt E7.1) K9q.1) E11.1) E13.1) K15q.1) E17.1) E19.1) K21q.1) E23.1) K25q.1) E27.1) K29q.1) K31q.1) K35q.1) sz86_nw1))
  have x194 := (nL (tL (tL (tL (tL (tL (tL (tL (tL (tL (tL (tL (tL (tL (tL (tL (tL (tL A1.lt K3q.1) E5.1) E7.1) K9q.1) E11.1) E13.1) K15q.1) E17.1) E19.1) K21q.1) E23.1) K25q.1) E27.1) K29q.1) K31q.1) K35q.1) sz86_nw1))
  have x195 := (nL (tL (tL (tL (tL (tL (tL (tL (tL (tL (tL (tL (tL (tL (tL (tL (tL R3_5.lt E5.1) E7.1) K9q.1) E11.1) E13.1) K15q.1) E17.1) E19.1) K21q.1) E23.1) K25q.1) E27.1) K29q.1) K31q.1) K35q.1) sz86_nw1))
  have x196 := (nL (tL (tL (tL (tL (tL (tL (tL (tL (tL (tL (tL (tL (tL (tL (tL (tL R3_22.lt E5.1) E7.1) K9q.1) E11.1) E13.1) K15q.1) E17.1) E19.1) K21q.1) E23.1) K25q.1) E27.1) K29q.1) K31q.1) K35q.1) sz86_nw1))
  have x197 := (nL (tL (tL (tL (tL (tL (tL (tL (tL (tL (tL (tL (tL (tL (tL (tL (tL R3_32.lt E5.1) E7.1) K9q.1) E11.1) E13.1) K15q.1) E17.1) E19.1) K21q.1) E23.1) K25q.1) E27.1) K29q.1) K31q.1) K35q.1) sz86_nw1))
  have f198 := (R35_5.kf K86q KF86q (nofA (nS x45) (nofB (sn82 W) (nofB (sn83 W) (nofB (sn84 W) (nofA (nS x45) (nofA (nS x45) (nofA x51 (nofA (nS x67) (nofA (nS x67) (nofA x184 (nofA x51 (nofA x51 (nofA x51 (nofA x51 (nofA x148 (nofA x147 (nofA x147 (nofA (nS x39) (nofA (nS x39) (nofA x51 (nofB (sn133 W) nof0))))))))))))))))))))))
  have x199 := (nL (tL (tL (tL (tL A27.lt K29q.1) K31q.1) K35q.1) sz86_nw1))
  have f200 := (f127.kf K86q KF86q (nofA x96 (nofA x39 (nofA x39 (nofA x39 (nofA x96 (nofA x96 (nofA x40 (nofA x95 (nofA x95 (nofA x186 (nofA x40 (nofA x40 (nofA x40 (nofA x40 (nofA x134 (nofA x135 (nofA x135 (nofB (sn65 W) (nofB (sn64 W) (nofA x40 (nofA x39 nof0))))))))))))))))))))))
  have x201 := (nL (tL (tL (tL A17.lt E19.1) K21q.1) (Nat.le_of_eq g23.symm)))
  have x202 := (nL (tL (tL (tL (tL (tL A17.lt E19.1) K21q.1) E23.1) K25q.1) (Nat.le_of_eq g27.symm)))
  have x203 := (nS x110)
  have x204 := (nS x118)
  have x205 := (nL (tL (tL (tL (tL (tL (tL (tL (tL A17.lt E19.1) K21q.1) E23.1) K25q.1) E27.1) K29q.1) K31q.1) sz35_nw1))
  have x206 := (nS x149)
  have f207 := (((((((R21_0.ext E23).keep K25q (ninS x201 nin0)).ext E27).keep K29q (ninS x202 nin0)).keep K31q (ninS x202 nin0)).keep K35q (ninS (nS x47) (ninS (nS x69) (ninS (nS x52) nin0)))).keep K86q (ninS (nS x47) (ninS (nS x52) (ninS x206 (ninS (nS x69) (ninS x205 (ninS x204 (ninS x203 (ninS (nS x41) nin0)))))))))
  have f208 := (((((((((A17.ext E19).keep K21q).ext E23).keep K25q).ext E27).keep K29q).keep K31q).keep K35q).keep K86q)
  have f209 := (((((((((F17_partition.ext E19).kf K21q KF21q (nofB (sn96 W) (nofB (sn97 W) (nofB (sn98 W) (nofB (sn99 W) (nofB (sn101 W) nof0)))))).ext E23).keep K25q (ninS x201 nin0)).ext E27).keep K29q (ninS x202 nin0)).keep K31q (ninS x202 nin0)).keep K35q (ninS (nS x47) (ninS (nS x69) (ninS (nS x52) nin0)))).keep K86q (ninS (nS x47) (ninS (nS x52) (ninS x206 (ninS (nS x69) (ninS x205 (ninS x204 (ninS x203 (ninS (nS x41) nin0)))))))))
  have f210 := (f137.kf K86q KF86q (nofA x96 (nofA x39 (nofA x39 (nofA x39 (nofA x96 (nofA x96 (nofA x40 (nofA x95 (nofA x95 (nofA x186 (nofA x40 (nofA x40 (nofA x40 (nofA x40 (nofA x134 (nofA x135 (nofA x135 (nofB (sn13 W) (nofB (sn14 W) (nofA x40 (nofA x39 nof0))))))))))))))))))))))
  have f211 := (f155.keep K86q (ninS x138 (ninS x59 (ninS x60 (ninS x75 (ninS x157 (ninS x142 (ninS x141 (ninS x140 nin0)))))))))
  have f212 := (f139.keep K86q (ninS x138 (ninS x59 (ninS x60 (ninS x75 (ninS x157 (ninS x142 (ninS x141 (ninS x140 nin0)))))))))
  have f213 := (R35_6.kf K86q KF86q (nofA R3_46 (nofA x67 (nofA x67 (nofA x67 (nofA R3_46 (nofA R3_46 (nofA x68 (nofB (sn0 W) (nofB (sn40 W) (nofA x156 (nofA x68 (nofA x68 (nofA x68 (nofA x68 (nofA x143 (nofA R3_47 (nofA R3_47 (nofA (nS x95) (nofA (nS x95) (nofA x68 (nofA x67 nof0))))))))))))))))))))))
  have x214 := (nS x205)
  have x215 := (nS (nL (tL (tL (tL (tL (tL (tL (tL (tL (tL A17.lt E19.1) K21q.1) E23.1) K25q.1) E27.1) K29q.1) K31q.1) K35q.1) sz86_nw2)))
  have x216 := (nS (nL (tL (tL (tL (tL (tL (tL (tL (tL (tL (tL (tL (tL (tL (tL (tL (tL R3_27.lt E5.1) E7.1) K9q.1) E11.1) E13.1) K15q.1) E17.1) E19.1) K21q.1) E23.1) K25q.1) E27.1) K29q.1) K31q.1) K35q.1) sz86_nw2)))
  have x217 := (nS (nL (tL R35_10.lt sz86_nw2)))
  have f218 := (((((((R21_1.ext E23).keep K25q (ninS x201 nin0)).ext E27).keep K29q (ninS x202 nin0)).keep K31q (ninS x202 nin0)).keep K35q (ninS (nS x47) (ninS (nS x69) (ninS (nS x52) nin0)))).keep K86q (ninS (nS x47) (ninS (nS x52) (ninS x206 (ninS (nS x69) (ninS x205 (ninS x204 (ninS x203 (ninS (nS x41) nin0)))))))))
  have f219 := (((((((R21_2.ext E23).keep K25q (ninS x201 nin0)).ext E27).keep K29q (ninS x202 nin0)).keep K31q (ninS x202 nin0)).keep K35q (ninS (nS x47) (ninS (nS x69) (ninS (nS x52) nin0)))).keep K86q (ninS (nS x47) (ninS (nS x52) (ninS x206 (ninS (nS x69) (ninS x205 (ninS x204 (ninS x203 (ninS (nS x41) nin0)))))))))
  have f220 := (((((((R21_3.ext E23).keep K25q (ninS x201 nin0)).ext E27).keep K29q (ninS x202 nin0)).keep K31q (ninS x202 nin0)).keep K35q (ninS (nS x47) (ninS (nS x69) (ninS (nS x52) nin0)))).keep K86q (ninS (nS x47) (ninS (nS x52) (ninS x206 (ninS (nS x69) (ninS x205 (ninS x204 (ninS x203 (ninS (nS x41) nin0)))))))))
  have x221 := (nS x158)
  have x222 := (nS (nL (tL (tL (tL (tL (tL (tL (tL (tL (tL (tL (tL (tL A11.lt E13.1) K15q.1) E17.1) E19.1) K21q.1) E23.1) K25q.1) E27.1) K29q.1) K31q.1) K35q.1) sz86_nw2)))
  have x223 := (nS (nL (tL (tL (tL (tL (tL (tL (tL (tL (tL (tL (tL (tL (tL (tL (tL A5.lt E7.1) K9q.1) E11.1) E13.1) K15q.1) E17.1) E19.1) K21q.1) E23.1) K25q.1) E27.1) K29q.1) K31q.1) K35q.1) sz86_nw2)))
  have x224 := (nL (tL (tL (tL (tL (tL (tL (tL (tL (tL (tL (tL (tL (tL (tL (tL (tL R3_13.lt E5.1) E7.1) K9q.1) E11.1) E13.1) K15q.1) E17.1) E19.1) K21q.1) E23.1) K25q.1) E27.1) K29q.1) K31q.1) K35q.1) sz86_nw1))
  have x225 := (nL (tL (tL (tL (tL (tL (tL (tL (tL (tL A17.lt E19.1) K21q.1) E23.1) K25q.1) E27.1) K29q.1) K31q.1) K35q.1) sz86_nw1))
  have x226 := (nL (tL (tL (tL (tL (tL (tL (tL (tL (tL (tL (tL (tL (tL (tL (tL (tL R3_9.lt E5.1) E7.1) K9q.1) E11.1) E13.1) K15q.1) E17.1) E19.1) K21q.1) E23.1) K25q.1) E27.1) K29q.1) K31q.1) K35q.1) sz86_nw1))
  have x227 := (nL (tL (tL (tL (tL (tL (tL (tL (tL (tL (tL (tL (tL (tL (tL (tL (tL R3_27.lt E5.1) E7.1) K9q.1) E11.1) E13.1) K15q.1) E17.1) E19.1) K21q.1) E23.1) K25q.1) E27.1) K29q.1) K31q.1) K35q.1) sz86_nw1))
  have x228 := (nL (tL R35_10.lt sz86_nw1))
  have x229 := (nL (tL (tL (tL (tL (tL (tL (tL (tL (tL (tL (tL (tL A11.lt E13.1) K15q.1) E17.1) E19.1) K21q.1) E23.1) K25q.1) E27.1) K29q.1) K31q.1) K35q.1) sz86_nw1))
  have x230 := (nS x202)
  have x231 := (nL (tL (tL (tL (tL A27.lt K29q.1) K31q.1) K35q.1) sz86_nw2))
  have f232 := (((((((((F17_degree.ext E19).kf K21q KF21q (nofB (sn125 W) (nofB (sn126 W) (nofB (sn127 W) (nofB (sn128 W) (nofB (sn134 W) nof0)))))).ext E23).keep K25q (ninS x201 nin0)).ext E27).keep K29q (ninS x202 nin0)).keep K31q (ninS x202 nin0)).keep K35q (ninS (nS x47) (ninS (nS x69) (ninS (nS x52) nin0)))).keep K86q (ninS (nS x47) (ninS (nS x52) (ninS x206 (ninS (nS x69) (ninS x205 (ninS x204 (ninS x203 (ninS (nS x41) nin0)))))))))
  have x233 := (nL (tL (tL R31_3.lt K35q.1) sz86_nw1))
  have x234 := (nS (nL (tL (tL (tL (tL (tL (tL (tL A17.lt E19.1) K21q.1) E23.1) K25q.1) E27.1) K29q.1) sz31_nw1)))
  have x235 := (nL (tL (tL R31_3.lt K35q.1) sz86_nw2))
  obtain ⟨cq178, kq178, q178a, q178b, q178c⟩ := isOf hZ19 rfl ((f84.keep K35q).keep K86q)
  obtain ⟨_, _, ⟨T178, L178, k178, n178⟩, -, X178, ⟨Lc178, hQ178, l178, y178, z178⟩, st178⟩ := X86.virtualBack hx (y := yy3) (z := yy3) hown19 (mvT hZ19 (W 169 rfl)) (mvT hZ19 (W 170 rfl)) (notFace_of_selects (args := #[]) (mvT hZ19 (W 172 rfl))) (mvT hZ19 (W 172 rfl)) (mvT hZ19 (W 171 rfl)) (by decide) (backOfWith (W := 0) (rm18_84 W ⟨Z177, O177⟩ (f87.keep K86q) f179 P0 f180 f181 f182 f183 f185 f187 R86_1 (f98.keep K86q) f189 (f107.keep K86q) R86_15 f192 R86_14 R86_21 R86_23 P1 ge_nw1_86 R86_2 R86_3 R86_29 x193 ((f84.keep K35q).keep K86q) x194 x195 x196 x197 R86_28 R86_25 f198 R86_22 ge_b5 (nS x54) x199 R86_26 P3 R86_17 R86_27 R86_30 R86_35 R86_34 f200 ((f77.keep K35q).keep K86q) R86_0 f207 f208 f209 ge_b17 f210 x41 ((f58.keep K35q).keep K86q) f211 f212 ((f66.keep K35q).keep K86q) R86_7 ge_nw6_3 f213 R86_8 R86_9 R35_11 ge_nw1_35 x156 x157 x75 x61 x69 x214 R86_31 x215 x216 x217 f218 f219 R86_37 f220 x95 x186 (f153.keep K86q) R86_12 x149 (nS x68) x221 ge_b11 x222 ge_nw2_86 R86_38 P5 x39 x99 x108 x116 R86_39 x223 x224 x45 x225 (nS x52) x226 x59 x227 x67 x228 x164 x229 (nS x51) P6 P7 P8 x230 (nS x71) x167 x166 x231 f232 x233 x91 x234 x92 x172 x171 x235 R86_20) hZ19 (W 173 rfl) (W 2 rfl) (by decide) (by decide)) q178a q178c (g := (mkF m 89 #[.val (.int p1), .val (.int p2), .val (.ref b1), .val (.ref b5), .val (.ref b11), .val (.ref b17), .val (.ref b23), .val (.ref b27), .unset, .unset, .unset, .unset, .unset] [(.ref b27), (.ref b17), (.ref b1)])) rfl (by rw [hml]; rfl) (Steps.refl _) (argsL := [(.ref b17), (.ref b27)]) (rest := []) (lenOf pd_14 rfl) rfl (by show 2 * 0 + _ ≤ _; exact Nat.le_of_eq rfl) (hb hby at_89) (fun _ _ => ⟨rfl, rfl, (by decide : 31 + 7 ≤ _), (by decide : 155 + 33 ≤ _)⟩)
  dsimp only [Pt.U, Pt.locs, Pt.cells, Pt.slots] at X178 l178 y178 z178 st178 hQ178
  subst l178 y178 z178
  obtain ⟨rfl, N178q, K178q, KF178q, R178_0, R178_1, R178_2, R178_3, R178_4, R178_5, R178_6, R178_7, R178_8, R178_9, R178_10, R178_11, R178_12, R178_13, R178_14, R178_15, R178_16, R178_17, R178_18⟩ := hQ178
  have N178 := Fr.app N86 N178q
  have Z236 : n0 ≤ T178.heap.size := Nat.le_trans Z177 K178q.1
  have hk236 : k19 ≤ T178.heap.size := Nat.le_trans hk177 K178q.1
  have K236 : Keep h0 T178.heap [] := K177.trans K178q (allS (Or.inr sz_nw1_86) (allS (Or.inr sz_b5) (allS (Or.inr sz_b17) (allS (Or.inr sz_nw6_3) (allS (Or.inr sz_nw1_35) (allS (Or.inr sz_b11) (allS (Or.inr sz_nw2_86) all0)))))))
  have O236 : Old Z n0 T178.heap := O177.keep K178q (allS ge_nw1_86 (allS ge_b5 (allS ge_b17 (allS ge_nw6_3 (allS ge_nw1_35 (allS ge_b11 (allS ge_nw2_86 all0)))))))
  refine own_fwd (B := T178.setTop (mkF m 92 #[.val (.int p1), .val (.int p2), .val (.ref b1), .val (.ref b5), .val (.ref b11), .val (.ref b17), .val (.ref b23), .val (.ref b27), .unset, .unset, .unset, .unset, .unset] [(.ref oa)])) (fun t k => st178.trans k) ?_
  refine own_fwd (B := T178.setTop (mkF m 93 #[.val (.int p1), .val (.int p2), .val (.ref b1), .val (.ref b5), .val (.ref b11), .val (.ref b17), .val (.ref b23), .val (.ref b27), .unset, .unset, .unset, .unset, .unset] [])) (fun t k => XS.pop X178.here hx rfl (hb hby at_92) rfl rfl k) ?_
  refine own_fwd (B := T178.setTop (mkF m 94 #[.val (.int p1), .val (.int p2), .val (.ref b1), .val (.ref b5), .val (.ref b11), .val (.ref b17), .val (.ref b23), .val (.ref b27), .unset, .unset, .unset, .unset, .unset] [(.int p1)])) (fun t k => XS.iloadN X178.here hx rfl (hb hby at_93) rfl k) ?_
  refine own_fwd (B := T178.setTop (mkF m 96 #[.val (.int p1), .val (.int p2), .val (.ref b1), .val (.ref b5), .val (.ref b11), .val (.ref b17), .val (.ref b23), .val (.ref b27), .unset, .unset, .unset, .unset, .unset] [(.int (2147483647 : Int32)), (.int p1)])) (fun t k => X178.ldcInt hx hown19 (mvT hZ19 (W 416 rfl)) (g := (mkF m 94 #[.val (.int p1), .val (.int p2), .val (.ref b1), .val (.ref b5), .val (.ref b11), .val (.ref b17), .val (.ref b23), .val (.ref b27), .unset, .unset, .unset, .unset, .unset] [(.int p1)])) rfl (hb hby at_94) t k) ?_
  refine own_fwd (B := T178.setTop (mkF m 97 #[.val (.int p1), .val (.int p2), .val (.ref b1), .val (.ref b5), .val (.ref b11), .val (.ref b17), .val (.ref b23), .val (.ref b27), .unset, .unset, .unset, .unset, .unset] [(.int (p1 &&& (2147483647 : Int32)))])) (fun t k => XS.iand X178.here hx rfl (hb hby at_96) rfl k) ?_
  refine own_fwd (B := T178.setTop (mkF m 98 #[.val (.int p1), .val (.int p2), .val (.ref b1), .val (.ref b5), .val (.ref b11), .val (.ref b17), .val (.ref b23), .val (.ref b27), .unset, .unset, .unset, .unset, .unset] [(.int (3 : Int32)), (.int (p1 &&& (2147483647 : Int32)))])) (fun t k => XS.iconst X178.here hx rfl (hb hby at_97) k) ?_
  refine own_fwd (B := T178.setTop (mkF m 99 #[.val (.int p1), .val (.int p2), .val (.ref b1), .val (.ref b5), .val (.ref b11), .val (.ref b17), .val (.ref b23), .val (.ref b27), .unset, .unset, .unset, .unset, .unset] [(.int ((p1 &&& (2147483647 : Int32)) % (3 : Int32)))])) (fun t k => iremM X178 hx rfl (hb hby at_98) rfl (by decide) k) ?_
  refine own_fwd (B := T178.setTop (mkF m 101 #[.val (.int p1), .val (.int p2), .val (.ref b1), .val (.ref b5), .val (.ref b11), .val (.ref b17), .val (.ref b23), .val (.ref b27), .val (.int ((p1 &&& (2147483647 : Int32)) % (3 : Int32))), .unset, .unset, .unset, .unset] [])) (fun t k => XS.istore X178.here hx rfl (hb hby at_99) rfl (l' := #[.val (.int p1), .val (.int p2), .val (.ref b1), .val (.ref b5), .val (.ref b11), .val (.ref b17), .val (.ref b23), .val (.ref b27), .val (.int ((p1 &&& (2147483647 : Int32)) % (3 : Int32))), .unset, .unset, .unset, .unset]) rfl k) ?_
  refine own_fwd (B := T178.setTop (mkF m 103 #[.val (.int p1), .val (.int p2), .val (.ref b1), .val (.ref b5), .val (.ref b11), .val (.ref b17), .val (.ref b23), .val (.ref b27), .val (.int ((p1 &&& (2147483647 : Int32)) % (3 : Int32))), .unset, .unset, .unset, .unset] [(.int ((p1 &&& (2147483647 : Int32)) % (3 : Int32)))])) (fun t k => XS.iload X178.here hx rfl (hb hby at_101) rfl k) ?_
  by_cases hc103 : ((p1 &&& (2147483647 : Int32)) % (3 : Int32)) = (0 : Int32)
  · skip
    refine own_fwd (B := T178.setTop (mkF m 106 #[.val (.int p1), .val (.int p2), .val (.ref b1), .val (.ref b5), .val (.ref b11), .val (.ref b17), .val (.ref b23), .val (.ref b27), .val (.int ((p1 &&& (2147483647 : Int32)) % (3 : Int32))), .unset, .unset, .unset, .unset] [])) (fun t k => XS.ifNo X178.here hx rfl (hb hby at_103) rfl ((if0 _ _).trans (teq hc103).2) k) ?_
    refine own_fwd (B := T178.setTop (mkF m 107 #[.val (.int p1), .val (.int p2), .val (.ref b1), .val (.ref b5), .val (.ref b11), .val (.ref b17), .val (.ref b23), .val (.ref b27), .val (.int ((p1 &&& (2147483647 : Int32)) % (3 : Int32))), .unset, .unset, .unset, .unset] [(.ref b5)])) (fun t k => XS.aloadN X178.here hx rfl (hb hby at_106) rfl rfl k) ?_
    refine own_fwd (B := T178.setTop (mkF m 123 #[.val (.int p1), .val (.int p2), .val (.ref b1), .val (.ref b5), .val (.ref b11), .val (.ref b17), .val (.ref b23), .val (.ref b27), .val (.int ((p1 &&& (2147483647 : Int32)) % (3 : Int32))), .unset, .unset, .unset, .unset] [(.ref b5)])) (fun t k => XS.goto X178.here hx rfl (pc0 := 107) (pc' := 123) rfl (hb hby at_107) (by decide) (by decide) k) ?_
    refine own_fwd (B := T178.setTop (mkF m 125 #[.val (.int p1), .val (.int p2), .val (.ref b1), .val (.ref b5), .val (.ref b11), .val (.ref b17), .val (.ref b23), .val (.ref b27), .val (.int ((p1 &&& (2147483647 : Int32)) % (3 : Int32))), .val (.ref b5), .unset, .unset, .unset] [])) (fun t k => XS.astore X178.here hx rfl (hb hby at_123) rfl rfl (l' := #[.val (.int p1), .val (.int p2), .val (.ref b1), .val (.ref b5), .val (.ref b11), .val (.ref b17), .val (.ref b23), .val (.ref b27), .val (.int ((p1 &&& (2147483647 : Int32)) % (3 : Int32))), .val (.ref b5), .unset, .unset, .unset]) rfl k) ?_
    refine own_fwd (B := T178.setTop (mkF m 127 #[.val (.int p1), .val (.int p2), .val (.ref b1), .val (.ref b5), .val (.ref b11), .val (.ref b17), .val (.ref b23), .val (.ref b27), .val (.int ((p1 &&& (2147483647 : Int32)) % (3 : Int32))), .val (.ref b5), .unset, .unset, .unset] [(.int ((p1 &&& (2147483647 : Int32)) % (3 : Int32)))])) (fun t k => XS.iload X178.here hx rfl (hb hby at_125) rfl k) ?_
    refine own_fwd (B := T178.setTop (mkF m 130 #[.val (.int p1), .val (.int p2), .val (.ref b1), .val (.ref b5), .val (.ref b11), .val (.ref b17), .val (.ref b23), .val (.ref b27), .val (.int ((p1 &&& (2147483647 : Int32)) % (3 : Int32))), .val (.ref b5), .unset, .unset, .unset] [])) (fun t k => XS.ifNo X178.here hx rfl (hb hby at_127) rfl ((if0 _ _).trans (teq (hc103 : ((p1 &&& (2147483647 : Int32)) % (3 : Int32)) = (0 : Int32))).2) k) ?_
    refine own_fwd (B := T178.setTop (mkF m 131 #[.val (.int p1), .val (.int p2), .val (.ref b1), .val (.ref b5), .val (.ref b11), .val (.ref b17), .val (.ref b23), .val (.ref b27), .val (.int ((p1 &&& (2147483647 : Int32)) % (3 : Int32))), .val (.ref b5), .unset, .unset, .unset] [(.int (2 : Int32))])) (fun t k => XS.iconst X178.here hx rfl (hb hby at_130) k) ?_
    refine own_fwd (B := T178.setTop (mkF m 135 #[.val (.int p1), .val (.int p2), .val (.ref b1), .val (.ref b5), .val (.ref b11), .val (.ref b17), .val (.ref b23), .val (.ref b27), .val (.int ((p1 &&& (2147483647 : Int32)) % (3 : Int32))), .val (.ref b5), .unset, .unset, .unset] [(.int (2 : Int32))])) (fun t k => XS.goto X178.here hx rfl (pc0 := 131) (pc' := 135) rfl (hb hby at_131) (by decide) (by decide) k) ?_
    refine own_fwd (B := T178.setTop (mkF m 137 #[.val (.int p1), .val (.int p2), .val (.ref b1), .val (.ref b5), .val (.ref b11), .val (.ref b17), .val (.ref b23), .val (.ref b27), .val (.int ((p1 &&& (2147483647 : Int32)) % (3 : Int32))), .val (.ref b5), .val (.int (2 : Int32)), .unset, .unset] [])) (fun t k => XS.istore X178.here hx rfl (hb hby at_135) rfl (l' := #[.val (.int p1), .val (.int p2), .val (.ref b1), .val (.ref b5), .val (.ref b11), .val (.ref b17), .val (.ref b23), .val (.ref b27), .val (.int ((p1 &&& (2147483647 : Int32)) % (3 : Int32))), .val (.ref b5), .val (.int (2 : Int32)), .unset, .unset]) rfl k) ?_
    refine own_fwd (B := T178.setTop (mkF m 138 #[.val (.int p1), .val (.int p2), .val (.ref b1), .val (.ref b5), .val (.ref b11), .val (.ref b17), .val (.ref b23), .val (.ref b27), .val (.int ((p1 &&& (2147483647 : Int32)) % (3 : Int32))), .val (.ref b5), .val (.int (2 : Int32)), .unset, .unset] [(.ref b1)])) (fun t k => XS.aloadN X178.here hx rfl (hb hby at_137) rfl rfl k) ?_
    refine own_fwd (B := T178.setTop (mkF m 140 #[.val (.int p1), .val (.int p2), .val (.ref b1), .val (.ref b5), .val (.ref b11), .val (.ref b17), .val (.ref b23), .val (.ref b27), .val (.int ((p1 &&& (2147483647 : Int32)) % (3 : Int32))), .val (.ref b5), .val (.int (2 : Int32)), .unset, .unset] [(.ref b5), (.ref b1)])) (fun t k => XS.aload X178.here hx rfl (hb hby at_138) rfl rfl k) ?_
    refine own_fwd (B := T178.setTop (mkF m 141 #[.val (.int p1), .val (.int p2), .val (.ref b1), .val (.ref b5), .val (.ref b11), .val (.ref b17), .val (.ref b23), .val (.ref b27), .val (.int ((p1 &&& (2147483647 : Int32)) % (3 : Int32))), .val (.ref b5), .val (.int (2 : Int32)), .unset, .unset] [(.int (0 : Int32)), (.ref b5), (.ref b1)])) (fun t k => XS.iconst X178.here hx rfl (hb hby at_140) k) ?_
    refine own_fwd (B := T178.setTop (mkF m 142 #[.val (.int p1), .val (.int p2), .val (.ref b1), .val (.ref b5), .val (.ref b11), .val (.ref b17), .val (.ref b23), .val (.ref b27), .val (.int ((p1 &&& (2147483647 : Int32)) % (3 : Int32))), .val (.ref b5), .val (.int (2 : Int32)), .unset, .unset] [(.int p2), (.int (0 : Int32)), (.ref b5), (.ref b1)])) (fun t k => XS.iloadN X178.here hx rfl (hb hby at_141) rfl k) ?_
    have f238 := (((f84.keep K35q).keep K86q).keep K178q)
    obtain ⟨cq237, kq237, q237a, q237b, q237c⟩ := isOf hZ19 rfl f238
    obtain ⟨_, _, ⟨T237, L237, k237, n237⟩, -, X237, ⟨Lc237, hQ237, l237, y237, z237⟩, st237⟩ := X178.virtualBack hx (y := yy4) (z := yy4) hown19 (mvT hZ19 (W 417 rfl)) (mvT hZ19 (W 418 rfl)) (notFace_of_selects (args := #[]) (mvT hZ19 (W 420 rfl))) (mvT hZ19 (W 420 rfl)) (mvT hZ19 (W 419 rfl)) (by decide) (backOf (W := 0) (rm54_111 W ⟨Z236, O236⟩ (f183.keep K178q) R178_18) hZ19 (W 421 rfl) (W 2 rfl) (by decide) (by decide)) q237a q237c (g := (mkF m 142 #[.val (.int p1), .val (.int p2), .val (.ref b1), .val (.ref b5), .val (.ref b11), .val (.ref b17), .val (.ref b23), .val (.ref b27), .val (.int ((p1 &&& (2147483647 : Int32)) % (3 : Int32))), .val (.ref b5), .val (.int (2 : Int32)), .unset, .unset] [(.int p2), (.int (0 : Int32)), (.ref b5), (.ref b1)])) rfl (by rw [hml]; rfl) (Steps.refl _) (argsL := [(.ref b5), (.int (0 : Int32)), (.int p2)]) (rest := []) (lenOf pd_32 rfl) rfl (by show 2 * 0 + _ ≤ _; exact Nat.le_of_eq rfl) (hb hby at_142) (fun _ _ => ⟨rfl, rfl, (by decide : 38 + 0 ≤ _), (by decide : 188 + 0 ≤ _)⟩)
    dsimp only [Pt.U, Pt.locs, Pt.cells, Pt.slots] at X237 l237 y237 z237 st237 hQ237
    subst l237 y237 z237
    obtain ⟨rfl, N237q, e237⟩ := hQ237
    have N237 := Fr.app N178 N237q
    refine own_fwd (B := T237.setTop (mkF m 145 #[.val (.int p1), .val (.int p2), .val (.ref b1), .val (.ref b5), .val (.ref b11), .val (.ref b17), .val (.ref b23), .val (.ref b27), .val (.int ((p1 &&& (2147483647 : Int32)) % (3 : Int32))), .val (.ref b5), .val (.int (2 : Int32)), .unset, .unset] [(.int (2 : Int32))])) (fun t k => st237.trans k) ?_
    refine own_fwd (B := T237.setTop (mkF m 147 #[.val (.int p1), .val (.int p2), .val (.ref b1), .val (.ref b5), .val (.ref b11), .val (.ref b17), .val (.ref b23), .val (.ref b27), .val (.int ((p1 &&& (2147483647 : Int32)) % (3 : Int32))), .val (.ref b5), .val (.int (2 : Int32)), .val (.int (2 : Int32)), .unset] [])) (fun t k => XS.istore X237.here hx rfl (hb hby at_145) rfl (l' := #[.val (.int p1), .val (.int p2), .val (.ref b1), .val (.ref b5), .val (.ref b11), .val (.ref b17), .val (.ref b23), .val (.ref b27), .val (.int ((p1 &&& (2147483647 : Int32)) % (3 : Int32))), .val (.ref b5), .val (.int (2 : Int32)), .val (.int (2 : Int32)), .unset]) rfl k) ?_
    refine own_fwd (B := T237.setTop (mkF m 148 #[.val (.int p1), .val (.int p2), .val (.ref b1), .val (.ref b5), .val (.ref b11), .val (.ref b17), .val (.ref b23), .val (.ref b27), .val (.int ((p1 &&& (2147483647 : Int32)) % (3 : Int32))), .val (.ref b5), .val (.int (2 : Int32)), .val (.int (2 : Int32)), .unset] [(.ref b1)])) (fun t k => XS.aloadN X237.here hx rfl (hb hby at_147) rfl rfl k) ?_
    refine own_fwd (B := T237.setTop (mkF m 150 #[.val (.int p1), .val (.int p2), .val (.ref b1), .val (.ref b5), .val (.ref b11), .val (.ref b17), .val (.ref b23), .val (.ref b27), .val (.int ((p1 &&& (2147483647 : Int32)) % (3 : Int32))), .val (.ref b5), .val (.int (2 : Int32)), .val (.int (2 : Int32)), .unset] [(.ref b5), (.ref b1)])) (fun t k => XS.aload X237.here hx rfl (hb hby at_148) rfl rfl k) ?_
    refine own_fwd (B := T237.setTop (mkF m 151 #[.val (.int p1), .val (.int p2), .val (.ref b1), .val (.ref b5), .val (.ref b11), .val (.ref b17), .val (.ref b23), .val (.ref b27), .val (.int ((p1 &&& (2147483647 : Int32)) % (3 : Int32))), .val (.ref b5), .val (.int (2 : Int32)), .val (.int (2 : Int32)), .unset] [(.int (1 : Int32)), (.ref b5), (.ref b1)])) (fun t k => XS.iconst X237.here hx rfl (hb hby at_150) k) ?_
    refine own_fwd (B := T237.setTop (mkF m 152 #[.val (.int p1), .val (.int p2), .val (.ref b1), .val (.ref b5), .val (.ref b11), .val (.ref b17), .val (.ref b23), .val (.ref b27), .val (.int ((p1 &&& (2147483647 : Int32)) % (3 : Int32))), .val (.ref b5), .val (.int (2 : Int32)), .val (.int (2 : Int32)), .unset] [(.int p2), (.int (1 : Int32)), (.ref b5), (.ref b1)])) (fun t k => XS.iloadN X237.here hx rfl (hb hby at_151) rfl k) ?_
    obtain ⟨cq239, kq239, q239a, q239b, q239c⟩ := isOf hZ19 e237 f238
    obtain ⟨_, _, ⟨T239, L239, k239, n239⟩, -, X239, ⟨Lc239, hQ239, l239, y239, z239⟩, st239⟩ := X237.virtualBack hx (y := yy4) (z := yy4) hown19 (mvT hZ19 (W 417 rfl)) (mvT hZ19 (W 418 rfl)) (notFace_of_selects (args := #[]) (mvT hZ19 (W 420 rfl))) (mvT hZ19 (W 420 rfl)) (mvT hZ19 (W 419 rfl)) (by decide) (backOf (W := 0) (rm54_113 W ⟨Z236, O236⟩ (f183.keep K178q) R178_18) hZ19 (W 421 rfl) (W 2 rfl) (by decide) (by decide)) q239a q239c (g := (mkF m 152 #[.val (.int p1), .val (.int p2), .val (.ref b1), .val (.ref b5), .val (.ref b11), .val (.ref b17), .val (.ref b23), .val (.ref b27), .val (.int ((p1 &&& (2147483647 : Int32)) % (3 : Int32))), .val (.ref b5), .val (.int (2 : Int32)), .val (.int (2 : Int32)), .unset] [(.int p2), (.int (1 : Int32)), (.ref b5), (.ref b1)])) rfl (by rw [hml]; rfl) (Steps.refl _) (argsL := [(.ref b5), (.int (1 : Int32)), (.int p2)]) (rest := []) (lenOf pd_32 rfl) rfl (by show 2 * 0 + _ ≤ _; exact Nat.le_of_eq rfl) (hb hby at_152) (fun _ _ => ⟨rfl, e237, (by decide : 38 + 0 ≤ _), (by decide : 188 + 0 ≤ _)⟩)
    dsimp only [Pt.U, Pt.locs, Pt.cells, Pt.slots] at X239 l239 y239 z239 st239 hQ239
    subst l239 y239 z239
    obtain ⟨rfl, N239q, e239⟩ := hQ239
    have N239 := Fr.app N237 N239q
    refine own_fwd (B := T239.setTop (mkF m 155 #[.val (.int p1), .val (.int p2), .val (.ref b1), .val (.ref b5), .val (.ref b11), .val (.ref b17), .val (.ref b23), .val (.ref b27), .val (.int ((p1 &&& (2147483647 : Int32)) % (3 : Int32))), .val (.ref b5), .val (.int (2 : Int32)), .val (.int (2 : Int32)), .unset] [(.int ((p2 - (1 : Int32)) - (2 : Int32)))])) (fun t k => st239.trans k) ?_
    refine own_fwd (B := T239.setTop (mkF m 157 #[.val (.int p1), .val (.int p2), .val (.ref b1), .val (.ref b5), .val (.ref b11), .val (.ref b17), .val (.ref b23), .val (.ref b27), .val (.int ((p1 &&& (2147483647 : Int32)) % (3 : Int32))), .val (.ref b5), .val (.int (2 : Int32)), .val (.int (2 : Int32)), .val (.int ((p2 - (1 : Int32)) - (2 : Int32)))] [])) (fun t k => XS.istore X239.here hx rfl (hb hby at_155) rfl (l' := #[.val (.int p1), .val (.int p2), .val (.ref b1), .val (.ref b5), .val (.ref b11), .val (.ref b17), .val (.ref b23), .val (.ref b27), .val (.int ((p1 &&& (2147483647 : Int32)) % (3 : Int32))), .val (.ref b5), .val (.int (2 : Int32)), .val (.int (2 : Int32)), .val (.int ((p2 - (1 : Int32)) - (2 : Int32)))]) rfl k) ?_
    refine own_fwd (B := T239.setTop (mkF m 159 #[.val (.int p1), .val (.int p2), .val (.ref b1), .val (.ref b5), .val (.ref b11), .val (.ref b17), .val (.ref b23), .val (.ref b27), .val (.int ((p1 &&& (2147483647 : Int32)) % (3 : Int32))), .val (.ref b5), .val (.int (2 : Int32)), .val (.int (2 : Int32)), .val (.int ((p2 - (1 : Int32)) - (2 : Int32)))] [(.int (2 : Int32))])) (fun t k => XS.iload X239.here hx rfl (hb hby at_157) rfl k) ?_
    refine own_fwd (B := T239.setTop (mkF m 161 #[.val (.int p1), .val (.int p2), .val (.ref b1), .val (.ref b5), .val (.ref b11), .val (.ref b17), .val (.ref b23), .val (.ref b27), .val (.int ((p1 &&& (2147483647 : Int32)) % (3 : Int32))), .val (.ref b5), .val (.int (2 : Int32)), .val (.int (2 : Int32)), .val (.int ((p2 - (1 : Int32)) - (2 : Int32)))] [(.int (2 : Int32)), (.int (2 : Int32))])) (fun t k => XS.iload X239.here hx rfl (hb hby at_159) rfl k) ?_
    refine own_fwd (B := T239.setTop (mkF m 164 #[.val (.int p1), .val (.int p2), .val (.ref b1), .val (.ref b5), .val (.ref b11), .val (.ref b17), .val (.ref b23), .val (.ref b27), .val (.int ((p1 &&& (2147483647 : Int32)) % (3 : Int32))), .val (.ref b5), .val (.int (2 : Int32)), .val (.int (2 : Int32)), .val (.int ((p2 - (1 : Int32)) - (2 : Int32)))] [])) (fun t k => XS.icmpNo X239.here hx rfl (hb hby at_161) rfl (teq (by decide : (2 : Int32) = (2 : Int32))).2 k) ?_
    refine own_fwd (B := T239.setTop (mkF m 166 #[.val (.int p1), .val (.int p2), .val (.ref b1), .val (.ref b5), .val (.ref b11), .val (.ref b17), .val (.ref b23), .val (.ref b27), .val (.int ((p1 &&& (2147483647 : Int32)) % (3 : Int32))), .val (.ref b5), .val (.int (2 : Int32)), .val (.int (2 : Int32)), .val (.int ((p2 - (1 : Int32)) - (2 : Int32)))] [(.int ((p2 - (1 : Int32)) - (2 : Int32)))])) (fun t k => XS.iload X239.here hx rfl (hb hby at_164) rfl k) ?_
    refine own_fwd (B := T239.setTop (mkF m 167 #[.val (.int p1), .val (.int p2), .val (.ref b1), .val (.ref b5), .val (.ref b11), .val (.ref b17), .val (.ref b23), .val (.ref b27), .val (.int ((p1 &&& (2147483647 : Int32)) % (3 : Int32))), .val (.ref b5), .val (.int (2 : Int32)), .val (.int (2 : Int32)), .val (.int ((p2 - (1 : Int32)) - (2 : Int32)))] [(.int p2), (.int ((p2 - (1 : Int32)) - (2 : Int32)))])) (fun t k => XS.iloadN X239.here hx rfl (hb hby at_166) rfl k) ?_
    refine own_fwd (B := T239.setTop (mkF m 168 #[.val (.int p1), .val (.int p2), .val (.ref b1), .val (.ref b5), .val (.ref b11), .val (.ref b17), .val (.ref b23), .val (.ref b27), .val (.int ((p1 &&& (2147483647 : Int32)) % (3 : Int32))), .val (.ref b5), .val (.int (2 : Int32)), .val (.int (2 : Int32)), .val (.int ((p2 - (1 : Int32)) - (2 : Int32)))] [(.int (1 : Int32)), (.int p2), (.int ((p2 - (1 : Int32)) - (2 : Int32)))])) (fun t k => XS.iconst X239.here hx rfl (hb hby at_167) k) ?_
    refine own_fwd (B := T239.setTop (mkF m 169 #[.val (.int p1), .val (.int p2), .val (.ref b1), .val (.ref b5), .val (.ref b11), .val (.ref b17), .val (.ref b23), .val (.ref b27), .val (.int ((p1 &&& (2147483647 : Int32)) % (3 : Int32))), .val (.ref b5), .val (.int (2 : Int32)), .val (.int (2 : Int32)), .val (.int ((p2 - (1 : Int32)) - (2 : Int32)))] [(.int (p2 - (1 : Int32))), (.int ((p2 - (1 : Int32)) - (2 : Int32)))])) (fun t k => XS.isub X239.here hx rfl (hb hby at_168) rfl k) ?_
    refine own_fwd (B := T239.setTop (mkF m 171 #[.val (.int p1), .val (.int p2), .val (.ref b1), .val (.ref b5), .val (.ref b11), .val (.ref b17), .val (.ref b23), .val (.ref b27), .val (.int ((p1 &&& (2147483647 : Int32)) % (3 : Int32))), .val (.ref b5), .val (.int (2 : Int32)), .val (.int (2 : Int32)), .val (.int ((p2 - (1 : Int32)) - (2 : Int32)))] [(.int (2 : Int32)), (.int (p2 - (1 : Int32))), (.int ((p2 - (1 : Int32)) - (2 : Int32)))])) (fun t k => XS.iload X239.here hx rfl (hb hby at_169) rfl k) ?_
    refine own_fwd (B := T239.setTop (mkF m 172 #[.val (.int p1), .val (.int p2), .val (.ref b1), .val (.ref b5), .val (.ref b11), .val (.ref b17), .val (.ref b23), .val (.ref b27), .val (.int ((p1 &&& (2147483647 : Int32)) % (3 : Int32))), .val (.ref b5), .val (.int (2 : Int32)), .val (.int (2 : Int32)), .val (.int ((p2 - (1 : Int32)) - (2 : Int32)))] [(.int ((p2 - (1 : Int32)) - (2 : Int32))), (.int ((p2 - (1 : Int32)) - (2 : Int32)))])) (fun t k => XS.isub X239.here hx rfl (hb hby at_171) rfl k) ?_
    refine own_fwd (B := T239.setTop (mkF m 175 #[.val (.int p1), .val (.int p2), .val (.ref b1), .val (.ref b5), .val (.ref b11), .val (.ref b17), .val (.ref b23), .val (.ref b27), .val (.int ((p1 &&& (2147483647 : Int32)) % (3 : Int32))), .val (.ref b5), .val (.int (2 : Int32)), .val (.int (2 : Int32)), .val (.int ((p2 - (1 : Int32)) - (2 : Int32)))] [])) (fun t k => XS.icmpNo X239.here hx rfl (hb hby at_172) rfl (teq (rfl : ((p2 - (1 : Int32)) - (2 : Int32)) = ((p2 - (1 : Int32)) - (2 : Int32)))).2 k) ?_
    refine own_fwd (B := T239.setTop (mkF m 177 #[.val (.int p1), .val (.int p2), .val (.ref b1), .val (.ref b5), .val (.ref b11), .val (.ref b17), .val (.ref b23), .val (.ref b27), .val (.int ((p1 &&& (2147483647 : Int32)) % (3 : Int32))), .val (.ref b5), .val (.int (2 : Int32)), .val (.int (2 : Int32)), .val (.int ((p2 - (1 : Int32)) - (2 : Int32)))] [(.int ((p2 - (1 : Int32)) - (2 : Int32)))])) (fun t k => XS.iload X239.here hx rfl (hb hby at_175) rfl k) ?_
    refine own_fwd (B := T239.setTop (mkF m 179 #[.val (.int p1), .val (.int p2), .val (.ref b1), .val (.ref b5), .val (.ref b11), .val (.ref b17), .val (.ref b23), .val (.ref b27), .val (.int ((p1 &&& (2147483647 : Int32)) % (3 : Int32))), .val (.ref b5), .val (.int (2 : Int32)), .val (.int (2 : Int32)), .val (.int ((p2 - (1 : Int32)) - (2 : Int32)))] [(.int (2 : Int32)), (.int ((p2 - (1 : Int32)) - (2 : Int32)))])) (fun t k => XS.iload X239.here hx rfl (hb hby at_177) rfl k) ?_
    refine own_fwd (B := T239.setTop (mkF m 180 #[.val (.int p1), .val (.int p2), .val (.ref b1), .val (.ref b5), .val (.ref b11), .val (.ref b17), .val (.ref b23), .val (.ref b27), .val (.int ((p1 &&& (2147483647 : Int32)) % (3 : Int32))), .val (.ref b5), .val (.int (2 : Int32)), .val (.int (2 : Int32)), .val (.int ((p2 - (1 : Int32)) - (2 : Int32)))] [(.int (((p2 - (1 : Int32)) - (2 : Int32)) + (2 : Int32)))])) (fun t k => XS.iadd X239.here hx rfl (hb hby at_179) rfl k) ?_
    refine own_fwd (B := T239.setTop (mkF m 181 #[.val (.int p1), .val (.int p2), .val (.ref b1), .val (.ref b5), .val (.ref b11), .val (.ref b17), .val (.ref b23), .val (.ref b27), .val (.int ((p1 &&& (2147483647 : Int32)) % (3 : Int32))), .val (.ref b5), .val (.int (2 : Int32)), .val (.int (2 : Int32)), .val (.int ((p2 - (1 : Int32)) - (2 : Int32)))] [(.int p2), (.int (((p2 - (1 : Int32)) - (2 : Int32)) + (2 : Int32)))])) (fun t k => XS.iloadN X239.here hx rfl (hb hby at_180) rfl k) ?_
    refine own_fwd (B := T239.setTop (mkF m 182 #[.val (.int p1), .val (.int p2), .val (.ref b1), .val (.ref b5), .val (.ref b11), .val (.ref b17), .val (.ref b23), .val (.ref b27), .val (.int ((p1 &&& (2147483647 : Int32)) % (3 : Int32))), .val (.ref b5), .val (.int (2 : Int32)), .val (.int (2 : Int32)), .val (.int ((p2 - (1 : Int32)) - (2 : Int32)))] [(.int (1 : Int32)), (.int p2), (.int (((p2 - (1 : Int32)) - (2 : Int32)) + (2 : Int32)))])) (fun t k => XS.iconst X239.here hx rfl (hb hby at_181) k) ?_
    refine own_fwd (B := T239.setTop (mkF m 183 #[.val (.int p1), .val (.int p2), .val (.ref b1), .val (.ref b5), .val (.ref b11), .val (.ref b17), .val (.ref b23), .val (.ref b27), .val (.int ((p1 &&& (2147483647 : Int32)) % (3 : Int32))), .val (.ref b5), .val (.int (2 : Int32)), .val (.int (2 : Int32)), .val (.int ((p2 - (1 : Int32)) - (2 : Int32)))] [(.int (p2 - (1 : Int32))), (.int (((p2 - (1 : Int32)) - (2 : Int32)) + (2 : Int32)))])) (fun t k => XS.isub X239.here hx rfl (hb hby at_182) rfl k) ?_
    refine own_fwd (B := T239.setTop (mkF m 186 #[.val (.int p1), .val (.int p2), .val (.ref b1), .val (.ref b5), .val (.ref b11), .val (.ref b17), .val (.ref b23), .val (.ref b27), .val (.int ((p1 &&& (2147483647 : Int32)) % (3 : Int32))), .val (.ref b5), .val (.int (2 : Int32)), .val (.int (2 : Int32)), .val (.int ((p2 - (1 : Int32)) - (2 : Int32)))] [])) (fun t k => XS.icmpNo X239.here hx rfl (hb hby at_183) rfl (teq (Int32.sub_add_cancel _ _ : (((p2 - (1 : Int32)) - (2 : Int32)) + (2 : Int32)) = (p2 - (1 : Int32)))).2 k) ?_
    refine own_fwd (B := T239.setTop (mkF m 187 #[.val (.int p1), .val (.int p2), .val (.ref b1), .val (.ref b5), .val (.ref b11), .val (.ref b17), .val (.ref b23), .val (.ref b27), .val (.int ((p1 &&& (2147483647 : Int32)) % (3 : Int32))), .val (.ref b5), .val (.int (2 : Int32)), .val (.int (2 : Int32)), .val (.int ((p2 - (1 : Int32)) - (2 : Int32)))] [(.int (1 : Int32))])) (fun t k => XS.iconst X239.here hx rfl (hb hby at_186) k) ?_
    refine own_fwd (B := T239.setTop (mkF m 191 #[.val (.int p1), .val (.int p2), .val (.ref b1), .val (.ref b5), .val (.ref b11), .val (.ref b17), .val (.ref b23), .val (.ref b27), .val (.int ((p1 &&& (2147483647 : Int32)) % (3 : Int32))), .val (.ref b5), .val (.int (2 : Int32)), .val (.int (2 : Int32)), .val (.int ((p2 - (1 : Int32)) - (2 : Int32)))] [(.int (1 : Int32))])) (fun t k => XS.goto X239.here hx rfl (pc0 := 187) (pc' := 191) rfl (hb hby at_187) (by decide) (by decide) k) ?_
    obtain ⟨fs, hr, hrun, hended, hEv, hW, hI, hsame⟩ := X239.leaveW hS19 (by rw [e239]; exact hk236) (v := some (.int (1 : Int32))) (fun h => by rw [Bd.returns] at h; cases h)
    refine ⟨_, _, retN X239 hx (t := .boolean) Bd.returns (by simp) (hb hby at_191) hr, hrun, hended, _, _, rfl, ?_, ⟨_, rfl⟩, hW, hI, hsame.mono (by decide) (by decide)⟩
    show Q_rm0 Z p1 p2 w k ki ka kb oa ok h0 n0 _ T239.heap _
    rw [e239]
    exact ⟨rfl, N239⟩
  refine own_fwd (B := T178.setTop (mkF m 110 #[.val (.int p1), .val (.int p2), .val (.ref b1), .val (.ref b5), .val (.ref b11), .val (.ref b17), .val (.ref b23), .val (.ref b27), .val (.int ((p1 &&& (2147483647 : Int32)) % (3 : Int32))), .unset, .unset, .unset, .unset] [])) (fun t k => XS.ifYes X178.here hx rfl (pc0 := 103) (pc' := 110) rfl (hb hby at_103) rfl ((if0 _ _).trans (feq hc103).2) (by decide) (by decide) k) ?_
  refine own_fwd (B := T178.setTop (mkF m 112 #[.val (.int p1), .val (.int p2), .val (.ref b1), .val (.ref b5), .val (.ref b11), .val (.ref b17), .val (.ref b23), .val (.ref b27), .val (.int ((p1 &&& (2147483647 : Int32)) % (3 : Int32))), .unset, .unset, .unset, .unset] [(.int ((p1 &&& (2147483647 : Int32)) % (3 : Int32)))])) (fun t k => XS.iload X178.here hx rfl (hb hby at_110) rfl k) ?_
  refine own_fwd (B := T178.setTop (mkF m 113 #[.val (.int p1), .val (.int p2), .val (.ref b1), .val (.ref b5), .val (.ref b11), .val (.ref b17), .val (.ref b23), .val (.ref b27), .val (.int ((p1 &&& (2147483647 : Int32)) % (3 : Int32))), .unset, .unset, .unset, .unset] [(.int (1 : Int32)), (.int ((p1 &&& (2147483647 : Int32)) % (3 : Int32)))])) (fun t k => XS.iconst X178.here hx rfl (hb hby at_112) k) ?_
  by_cases hc113 : ((p1 &&& (2147483647 : Int32)) % (3 : Int32)) = (1 : Int32)
  · skip
    refine own_fwd (B := T178.setTop (mkF m 116 #[.val (.int p1), .val (.int p2), .val (.ref b1), .val (.ref b5), .val (.ref b11), .val (.ref b17), .val (.ref b23), .val (.ref b27), .val (.int ((p1 &&& (2147483647 : Int32)) % (3 : Int32))), .unset, .unset, .unset, .unset] [])) (fun t k => XS.icmpNo X178.here hx rfl (hb hby at_113) rfl (teq hc113).2 k) ?_
    refine own_fwd (B := T178.setTop (mkF m 118 #[.val (.int p1), .val (.int p2), .val (.ref b1), .val (.ref b5), .val (.ref b11), .val (.ref b17), .val (.ref b23), .val (.ref b27), .val (.int ((p1 &&& (2147483647 : Int32)) % (3 : Int32))), .unset, .unset, .unset, .unset] [(.ref b11)])) (fun t k => XS.aload X178.here hx rfl (hb hby at_116) rfl rfl k) ?_
    refine own_fwd (B := T178.setTop (mkF m 123 #[.val (.int p1), .val (.int p2), .val (.ref b1), .val (.ref b5), .val (.ref b11), .val (.ref b17), .val (.ref b23), .val (.ref b27), .val (.int ((p1 &&& (2147483647 : Int32)) % (3 : Int32))), .unset, .unset, .unset, .unset] [(.ref b11)])) (fun t k => XS.goto X178.here hx rfl (pc0 := 118) (pc' := 123) rfl (hb hby at_118) (by decide) (by decide) k) ?_
    refine own_fwd (B := T178.setTop (mkF m 125 #[.val (.int p1), .val (.int p2), .val (.ref b1), .val (.ref b5), .val (.ref b11), .val (.ref b17), .val (.ref b23), .val (.ref b27), .val (.int ((p1 &&& (2147483647 : Int32)) % (3 : Int32))), .val (.ref b11), .unset, .unset, .unset] [])) (fun t k => XS.astore X178.here hx rfl (hb hby at_123) rfl rfl (l' := #[.val (.int p1), .val (.int p2), .val (.ref b1), .val (.ref b5), .val (.ref b11), .val (.ref b17), .val (.ref b23), .val (.ref b27), .val (.int ((p1 &&& (2147483647 : Int32)) % (3 : Int32))), .val (.ref b11), .unset, .unset, .unset]) rfl k) ?_
    refine own_fwd (B := T178.setTop (mkF m 127 #[.val (.int p1), .val (.int p2), .val (.ref b1), .val (.ref b5), .val (.ref b11), .val (.ref b17), .val (.ref b23), .val (.ref b27), .val (.int ((p1 &&& (2147483647 : Int32)) % (3 : Int32))), .val (.ref b11), .unset, .unset, .unset] [(.int ((p1 &&& (2147483647 : Int32)) % (3 : Int32)))])) (fun t k => XS.iload X178.here hx rfl (hb hby at_125) rfl k) ?_
    refine own_fwd (B := T178.setTop (mkF m 134 #[.val (.int p1), .val (.int p2), .val (.ref b1), .val (.ref b5), .val (.ref b11), .val (.ref b17), .val (.ref b23), .val (.ref b27), .val (.int ((p1 &&& (2147483647 : Int32)) % (3 : Int32))), .val (.ref b11), .unset, .unset, .unset] [])) (fun t k => XS.ifYes X178.here hx rfl (pc0 := 127) (pc' := 134) rfl (hb hby at_127) rfl ((if0 _ _).trans (feq (hc103 : ¬ (((p1 &&& (2147483647 : Int32)) % (3 : Int32)) = (0 : Int32)))).2) (by decide) (by decide) k) ?_
    refine own_fwd (B := T178.setTop (mkF m 135 #[.val (.int p1), .val (.int p2), .val (.ref b1), .val (.ref b5), .val (.ref b11), .val (.ref b17), .val (.ref b23), .val (.ref b27), .val (.int ((p1 &&& (2147483647 : Int32)) % (3 : Int32))), .val (.ref b11), .unset, .unset, .unset] [(.int (1 : Int32))])) (fun t k => XS.iconst X178.here hx rfl (hb hby at_134) k) ?_
    refine own_fwd (B := T178.setTop (mkF m 137 #[.val (.int p1), .val (.int p2), .val (.ref b1), .val (.ref b5), .val (.ref b11), .val (.ref b17), .val (.ref b23), .val (.ref b27), .val (.int ((p1 &&& (2147483647 : Int32)) % (3 : Int32))), .val (.ref b11), .val (.int (1 : Int32)), .unset, .unset] [])) (fun t k => XS.istore X178.here hx rfl (hb hby at_135) rfl (l' := #[.val (.int p1), .val (.int p2), .val (.ref b1), .val (.ref b5), .val (.ref b11), .val (.ref b17), .val (.ref b23), .val (.ref b27), .val (.int ((p1 &&& (2147483647 : Int32)) % (3 : Int32))), .val (.ref b11), .val (.int (1 : Int32)), .unset, .unset]) rfl k) ?_
    refine own_fwd (B := T178.setTop (mkF m 138 #[.val (.int p1), .val (.int p2), .val (.ref b1), .val (.ref b5), .val (.ref b11), .val (.ref b17), .val (.ref b23), .val (.ref b27), .val (.int ((p1 &&& (2147483647 : Int32)) % (3 : Int32))), .val (.ref b11), .val (.int (1 : Int32)), .unset, .unset] [(.ref b1)])) (fun t k => XS.aloadN X178.here hx rfl (hb hby at_137) rfl rfl k) ?_
    refine own_fwd (B := T178.setTop (mkF m 140 #[.val (.int p1), .val (.int p2), .val (.ref b1), .val (.ref b5), .val (.ref b11), .val (.ref b17), .val (.ref b23), .val (.ref b27), .val (.int ((p1 &&& (2147483647 : Int32)) % (3 : Int32))), .val (.ref b11), .val (.int (1 : Int32)), .unset, .unset] [(.ref b11), (.ref b1)])) (fun t k => XS.aload X178.here hx rfl (hb hby at_138) rfl rfl k) ?_
    refine own_fwd (B := T178.setTop (mkF m 141 #[.val (.int p1), .val (.int p2), .val (.ref b1), .val (.ref b5), .val (.ref b11), .val (.ref b17), .val (.ref b23), .val (.ref b27), .val (.int ((p1 &&& (2147483647 : Int32)) % (3 : Int32))), .val (.ref b11), .val (.int (1 : Int32)), .unset, .unset] [(.int (0 : Int32)), (.ref b11), (.ref b1)])) (fun t k => XS.iconst X178.here hx rfl (hb hby at_140) k) ?_
    refine own_fwd (B := T178.setTop (mkF m 142 #[.val (.int p1), .val (.int p2), .val (.ref b1), .val (.ref b5), .val (.ref b11), .val (.ref b17), .val (.ref b23), .val (.ref b27), .val (.int ((p1 &&& (2147483647 : Int32)) % (3 : Int32))), .val (.ref b11), .val (.int (1 : Int32)), .unset, .unset] [(.int p2), (.int (0 : Int32)), (.ref b11), (.ref b1)])) (fun t k => XS.iloadN X178.here hx rfl (hb hby at_141) rfl k) ?_
    have x241 := (nS x222)
    have f242 := (R86_19.kf K178q KF178q (nofA x229 (nofA (nS x51) (nofA (nS x51) (nofA (nS x51) (nofA x229 (nofA x229 (nofA x149 (nofA (nS x68) (nofA (nS x68) (nofA x221 (nofA x149 (nofA x149 (nofA x149 (nofA x149 (nofB (sn127 W) (nofA x241 (nofA x241 (nofA x149 (nofA (nS x51) nof0))))))))))))))))))))
    have f243 := (((f84.keep K35q).keep K86q).keep K178q)
    obtain ⟨cq240, kq240, q240a, q240b, q240c⟩ := isOf hZ19 rfl f243
    obtain ⟨_, _, ⟨T240, L240, k240, n240⟩, -, X240, ⟨Lc240, hQ240, l240, y240, z240⟩, st240⟩ := X178.virtualBack hx (y := yy4) (z := yy4) hown19 (mvT hZ19 (W 417 rfl)) (mvT hZ19 (W 418 rfl)) (notFace_of_selects (args := #[]) (mvT hZ19 (W 420 rfl))) (mvT hZ19 (W 420 rfl)) (mvT hZ19 (W 419 rfl)) (by decide) (backOf (W := 0) (rm54_114 W ⟨Z236, O236⟩ ((f153.keep K86q).keep K178q) f242) hZ19 (W 421 rfl) (W 2 rfl) (by decide) (by decide)) q240a q240c (g := (mkF m 142 #[.val (.int p1), .val (.int p2), .val (.ref b1), .val (.ref b5), .val (.ref b11), .val (.ref b17), .val (.ref b23), .val (.ref b27), .val (.int ((p1 &&& (2147483647 : Int32)) % (3 : Int32))), .val (.ref b11), .val (.int (1 : Int32)), .unset, .unset] [(.int p2), (.int (0 : Int32)), (.ref b11), (.ref b1)])) rfl (by rw [hml]; rfl) (Steps.refl _) (argsL := [(.ref b11), (.int (0 : Int32)), (.int p2)]) (rest := []) (lenOf pd_32 rfl) rfl (by show 2 * 0 + _ ≤ _; exact Nat.le_of_eq rfl) (hb hby at_142) (fun _ _ => ⟨rfl, rfl, (by decide : 38 + 0 ≤ _), (by decide : 188 + 0 ≤ _)⟩)
    dsimp only [Pt.U, Pt.locs, Pt.cells, Pt.slots] at X240 l240 y240 z240 st240 hQ240
    subst l240 y240 z240
    obtain ⟨rfl, N240q, e240⟩ := hQ240
    have N240 := Fr.app N178 N240q
    refine own_fwd (B := T240.setTop (mkF m 145 #[.val (.int p1), .val (.int p2), .val (.ref b1), .val (.ref b5), .val (.ref b11), .val (.ref b17), .val (.ref b23), .val (.ref b27), .val (.int ((p1 &&& (2147483647 : Int32)) % (3 : Int32))), .val (.ref b11), .val (.int (1 : Int32)), .unset, .unset] [(.int (1 : Int32))])) (fun t k => st240.trans k) ?_
    refine own_fwd (B := T240.setTop (mkF m 147 #[.val (.int p1), .val (.int p2), .val (.ref b1), .val (.ref b5), .val (.ref b11), .val (.ref b17), .val (.ref b23), .val (.ref b27), .val (.int ((p1 &&& (2147483647 : Int32)) % (3 : Int32))), .val (.ref b11), .val (.int (1 : Int32)), .val (.int (1 : Int32)), .unset] [])) (fun t k => XS.istore X240.here hx rfl (hb hby at_145) rfl (l' := #[.val (.int p1), .val (.int p2), .val (.ref b1), .val (.ref b5), .val (.ref b11), .val (.ref b17), .val (.ref b23), .val (.ref b27), .val (.int ((p1 &&& (2147483647 : Int32)) % (3 : Int32))), .val (.ref b11), .val (.int (1 : Int32)), .val (.int (1 : Int32)), .unset]) rfl k) ?_
    refine own_fwd (B := T240.setTop (mkF m 148 #[.val (.int p1), .val (.int p2), .val (.ref b1), .val (.ref b5), .val (.ref b11), .val (.ref b17), .val (.ref b23), .val (.ref b27), .val (.int ((p1 &&& (2147483647 : Int32)) % (3 : Int32))), .val (.ref b11), .val (.int (1 : Int32)), .val (.int (1 : Int32)), .unset] [(.ref b1)])) (fun t k => XS.aloadN X240.here hx rfl (hb hby at_147) rfl rfl k) ?_
    refine own_fwd (B := T240.setTop (mkF m 150 #[.val (.int p1), .val (.int p2), .val (.ref b1), .val (.ref b5), .val (.ref b11), .val (.ref b17), .val (.ref b23), .val (.ref b27), .val (.int ((p1 &&& (2147483647 : Int32)) % (3 : Int32))), .val (.ref b11), .val (.int (1 : Int32)), .val (.int (1 : Int32)), .unset] [(.ref b11), (.ref b1)])) (fun t k => XS.aload X240.here hx rfl (hb hby at_148) rfl rfl k) ?_
    refine own_fwd (B := T240.setTop (mkF m 151 #[.val (.int p1), .val (.int p2), .val (.ref b1), .val (.ref b5), .val (.ref b11), .val (.ref b17), .val (.ref b23), .val (.ref b27), .val (.int ((p1 &&& (2147483647 : Int32)) % (3 : Int32))), .val (.ref b11), .val (.int (1 : Int32)), .val (.int (1 : Int32)), .unset] [(.int (1 : Int32)), (.ref b11), (.ref b1)])) (fun t k => XS.iconst X240.here hx rfl (hb hby at_150) k) ?_
    refine own_fwd (B := T240.setTop (mkF m 152 #[.val (.int p1), .val (.int p2), .val (.ref b1), .val (.ref b5), .val (.ref b11), .val (.ref b17), .val (.ref b23), .val (.ref b27), .val (.int ((p1 &&& (2147483647 : Int32)) % (3 : Int32))), .val (.ref b11), .val (.int (1 : Int32)), .val (.int (1 : Int32)), .unset] [(.int p2), (.int (1 : Int32)), (.ref b11), (.ref b1)])) (fun t k => XS.iloadN X240.here hx rfl (hb hby at_151) rfl k) ?_
    obtain ⟨cq244, kq244, q244a, q244b, q244c⟩ := isOf hZ19 e240 f243
    obtain ⟨_, _, ⟨T244, L244, k244, n244⟩, -, X244, ⟨Lc244, hQ244, l244, y244, z244⟩, st244⟩ := X240.virtualBack hx (y := yy4) (z := yy4) hown19 (mvT hZ19 (W 417 rfl)) (mvT hZ19 (W 418 rfl)) (notFace_of_selects (args := #[]) (mvT hZ19 (W 420 rfl))) (mvT hZ19 (W 420 rfl)) (mvT hZ19 (W 419 rfl)) (by decide) (backOf (W := 0) (rm54_116 W ⟨Z236, O236⟩ ((f153.keep K86q).keep K178q) f242) hZ19 (W 421 rfl) (W 2 rfl) (by decide) (by decide)) q244a q244c (g := (mkF m 152 #[.val (.int p1), .val (.int p2), .val (.ref b1), .val (.ref b5), .val (.ref b11), .val (.ref b17), .val (.ref b23), .val (.ref b27), .val (.int ((p1 &&& (2147483647 : Int32)) % (3 : Int32))), .val (.ref b11), .val (.int (1 : Int32)), .val (.int (1 : Int32)), .unset] [(.int p2), (.int (1 : Int32)), (.ref b11), (.ref b1)])) rfl (by rw [hml]; rfl) (Steps.refl _) (argsL := [(.ref b11), (.int (1 : Int32)), (.int p2)]) (rest := []) (lenOf pd_32 rfl) rfl (by show 2 * 0 + _ ≤ _; exact Nat.le_of_eq rfl) (hb hby at_152) (fun _ _ => ⟨rfl, e240, (by decide : 38 + 0 ≤ _), (by decide : 188 + 0 ≤ _)⟩)
    dsimp only [Pt.U, Pt.locs, Pt.cells, Pt.slots] at X244 l244 y244 z244 st244 hQ244
    subst l244 y244 z244
    obtain ⟨rfl, N244q, e244⟩ := hQ244
    have N244 := Fr.app N240 N244q
    refine own_fwd (B := T244.setTop (mkF m 155 #[.val (.int p1), .val (.int p2), .val (.ref b1), .val (.ref b5), .val (.ref b11), .val (.ref b17), .val (.ref b23), .val (.ref b27), .val (.int ((p1 &&& (2147483647 : Int32)) % (3 : Int32))), .val (.ref b11), .val (.int (1 : Int32)), .val (.int (1 : Int32)), .unset] [(.int ((p2 - (1 : Int32)) - (1 : Int32)))])) (fun t k => st244.trans k) ?_
    refine own_fwd (B := T244.setTop (mkF m 157 #[.val (.int p1), .val (.int p2), .val (.ref b1), .val (.ref b5), .val (.ref b11), .val (.ref b17), .val (.ref b23), .val (.ref b27), .val (.int ((p1 &&& (2147483647 : Int32)) % (3 : Int32))), .val (.ref b11), .val (.int (1 : Int32)), .val (.int (1 : Int32)), .val (.int ((p2 - (1 : Int32)) - (1 : Int32)))] [])) (fun t k => XS.istore X244.here hx rfl (hb hby at_155) rfl (l' := #[.val (.int p1), .val (.int p2), .val (.ref b1), .val (.ref b5), .val (.ref b11), .val (.ref b17), .val (.ref b23), .val (.ref b27), .val (.int ((p1 &&& (2147483647 : Int32)) % (3 : Int32))), .val (.ref b11), .val (.int (1 : Int32)), .val (.int (1 : Int32)), .val (.int ((p2 - (1 : Int32)) - (1 : Int32)))]) rfl k) ?_
    refine own_fwd (B := T244.setTop (mkF m 159 #[.val (.int p1), .val (.int p2), .val (.ref b1), .val (.ref b5), .val (.ref b11), .val (.ref b17), .val (.ref b23), .val (.ref b27), .val (.int ((p1 &&& (2147483647 : Int32)) % (3 : Int32))), .val (.ref b11), .val (.int (1 : Int32)), .val (.int (1 : Int32)), .val (.int ((p2 - (1 : Int32)) - (1 : Int32)))] [(.int (1 : Int32))])) (fun t k => XS.iload X244.here hx rfl (hb hby at_157) rfl k) ?_
    refine own_fwd (B := T244.setTop (mkF m 161 #[.val (.int p1), .val (.int p2), .val (.ref b1), .val (.ref b5), .val (.ref b11), .val (.ref b17), .val (.ref b23), .val (.ref b27), .val (.int ((p1 &&& (2147483647 : Int32)) % (3 : Int32))), .val (.ref b11), .val (.int (1 : Int32)), .val (.int (1 : Int32)), .val (.int ((p2 - (1 : Int32)) - (1 : Int32)))] [(.int (1 : Int32)), (.int (1 : Int32))])) (fun t k => XS.iload X244.here hx rfl (hb hby at_159) rfl k) ?_
    refine own_fwd (B := T244.setTop (mkF m 164 #[.val (.int p1), .val (.int p2), .val (.ref b1), .val (.ref b5), .val (.ref b11), .val (.ref b17), .val (.ref b23), .val (.ref b27), .val (.int ((p1 &&& (2147483647 : Int32)) % (3 : Int32))), .val (.ref b11), .val (.int (1 : Int32)), .val (.int (1 : Int32)), .val (.int ((p2 - (1 : Int32)) - (1 : Int32)))] [])) (fun t k => XS.icmpNo X244.here hx rfl (hb hby at_161) rfl (teq (by decide : (1 : Int32) = (1 : Int32))).2 k) ?_
    refine own_fwd (B := T244.setTop (mkF m 166 #[.val (.int p1), .val (.int p2), .val (.ref b1), .val (.ref b5), .val (.ref b11), .val (.ref b17), .val (.ref b23), .val (.ref b27), .val (.int ((p1 &&& (2147483647 : Int32)) % (3 : Int32))), .val (.ref b11), .val (.int (1 : Int32)), .val (.int (1 : Int32)), .val (.int ((p2 - (1 : Int32)) - (1 : Int32)))] [(.int ((p2 - (1 : Int32)) - (1 : Int32)))])) (fun t k => XS.iload X244.here hx rfl (hb hby at_164) rfl k) ?_
    refine own_fwd (B := T244.setTop (mkF m 167 #[.val (.int p1), .val (.int p2), .val (.ref b1), .val (.ref b5), .val (.ref b11), .val (.ref b17), .val (.ref b23), .val (.ref b27), .val (.int ((p1 &&& (2147483647 : Int32)) % (3 : Int32))), .val (.ref b11), .val (.int (1 : Int32)), .val (.int (1 : Int32)), .val (.int ((p2 - (1 : Int32)) - (1 : Int32)))] [(.int p2), (.int ((p2 - (1 : Int32)) - (1 : Int32)))])) (fun t k => XS.iloadN X244.here hx rfl (hb hby at_166) rfl k) ?_
    refine own_fwd (B := T244.setTop (mkF m 168 #[.val (.int p1), .val (.int p2), .val (.ref b1), .val (.ref b5), .val (.ref b11), .val (.ref b17), .val (.ref b23), .val (.ref b27), .val (.int ((p1 &&& (2147483647 : Int32)) % (3 : Int32))), .val (.ref b11), .val (.int (1 : Int32)), .val (.int (1 : Int32)), .val (.int ((p2 - (1 : Int32)) - (1 : Int32)))] [(.int (1 : Int32)), (.int p2), (.int ((p2 - (1 : Int32)) - (1 : Int32)))])) (fun t k => XS.iconst X244.here hx rfl (hb hby at_167) k) ?_
    refine own_fwd (B := T244.setTop (mkF m 169 #[.val (.int p1), .val (.int p2), .val (.ref b1), .val (.ref b5), .val (.ref b11), .val (.ref b17), .val (.ref b23), .val (.ref b27), .val (.int ((p1 &&& (2147483647 : Int32)) % (3 : Int32))), .val (.ref b11), .val (.int (1 : Int32)), .val (.int (1 : Int32)), .val (.int ((p2 - (1 : Int32)) - (1 : Int32)))] [(.int (p2 - (1 : Int32))), (.int ((p2 - (1 : Int32)) - (1 : Int32)))])) (fun t k => XS.isub X244.here hx rfl (hb hby at_168) rfl k) ?_
    refine own_fwd (B := T244.setTop (mkF m 171 #[.val (.int p1), .val (.int p2), .val (.ref b1), .val (.ref b5), .val (.ref b11), .val (.ref b17), .val (.ref b23), .val (.ref b27), .val (.int ((p1 &&& (2147483647 : Int32)) % (3 : Int32))), .val (.ref b11), .val (.int (1 : Int32)), .val (.int (1 : Int32)), .val (.int ((p2 - (1 : Int32)) - (1 : Int32)))] [(.int (1 : Int32)), (.int (p2 - (1 : Int32))), (.int ((p2 - (1 : Int32)) - (1 : Int32)))])) (fun t k => XS.iload X244.here hx rfl (hb hby at_169) rfl k) ?_
    refine own_fwd (B := T244.setTop (mkF m 172 #[.val (.int p1), .val (.int p2), .val (.ref b1), .val (.ref b5), .val (.ref b11), .val (.ref b17), .val (.ref b23), .val (.ref b27), .val (.int ((p1 &&& (2147483647 : Int32)) % (3 : Int32))), .val (.ref b11), .val (.int (1 : Int32)), .val (.int (1 : Int32)), .val (.int ((p2 - (1 : Int32)) - (1 : Int32)))] [(.int ((p2 - (1 : Int32)) - (1 : Int32))), (.int ((p2 - (1 : Int32)) - (1 : Int32)))])) (fun t k => XS.isub X244.here hx rfl (hb hby at_171) rfl k) ?_
    refine own_fwd (B := T244.setTop (mkF m 175 #[.val (.int p1), .val (.int p2), .val (.ref b1), .val (.ref b5), .val (.ref b11), .val (.ref b17), .val (.ref b23), .val (.ref b27), .val (.int ((p1 &&& (2147483647 : Int32)) % (3 : Int32))), .val (.ref b11), .val (.int (1 : Int32)), .val (.int (1 : Int32)), .val (.int ((p2 - (1 : Int32)) - (1 : Int32)))] [])) (fun t k => XS.icmpNo X244.here hx rfl (hb hby at_172) rfl (teq (rfl : ((p2 - (1 : Int32)) - (1 : Int32)) = ((p2 - (1 : Int32)) - (1 : Int32)))).2 k) ?_
    refine own_fwd (B := T244.setTop (mkF m 177 #[.val (.int p1), .val (.int p2), .val (.ref b1), .val (.ref b5), .val (.ref b11), .val (.ref b17), .val (.ref b23), .val (.ref b27), .val (.int ((p1 &&& (2147483647 : Int32)) % (3 : Int32))), .val (.ref b11), .val (.int (1 : Int32)), .val (.int (1 : Int32)), .val (.int ((p2 - (1 : Int32)) - (1 : Int32)))] [(.int ((p2 - (1 : Int32)) - (1 : Int32)))])) (fun t k => XS.iload X244.here hx rfl (hb hby at_175) rfl k) ?_
    refine own_fwd (B := T244.setTop (mkF m 179 #[.val (.int p1), .val (.int p2), .val (.ref b1), .val (.ref b5), .val (.ref b11), .val (.ref b17), .val (.ref b23), .val (.ref b27), .val (.int ((p1 &&& (2147483647 : Int32)) % (3 : Int32))), .val (.ref b11), .val (.int (1 : Int32)), .val (.int (1 : Int32)), .val (.int ((p2 - (1 : Int32)) - (1 : Int32)))] [(.int (1 : Int32)), (.int ((p2 - (1 : Int32)) - (1 : Int32)))])) (fun t k => XS.iload X244.here hx rfl (hb hby at_177) rfl k) ?_
    refine own_fwd (B := T244.setTop (mkF m 180 #[.val (.int p1), .val (.int p2), .val (.ref b1), .val (.ref b5), .val (.ref b11), .val (.ref b17), .val (.ref b23), .val (.ref b27), .val (.int ((p1 &&& (2147483647 : Int32)) % (3 : Int32))), .val (.ref b11), .val (.int (1 : Int32)), .val (.int (1 : Int32)), .val (.int ((p2 - (1 : Int32)) - (1 : Int32)))] [(.int (((p2 - (1 : Int32)) - (1 : Int32)) + (1 : Int32)))])) (fun t k => XS.iadd X244.here hx rfl (hb hby at_179) rfl k) ?_
    refine own_fwd (B := T244.setTop (mkF m 181 #[.val (.int p1), .val (.int p2), .val (.ref b1), .val (.ref b5), .val (.ref b11), .val (.ref b17), .val (.ref b23), .val (.ref b27), .val (.int ((p1 &&& (2147483647 : Int32)) % (3 : Int32))), .val (.ref b11), .val (.int (1 : Int32)), .val (.int (1 : Int32)), .val (.int ((p2 - (1 : Int32)) - (1 : Int32)))] [(.int p2), (.int (((p2 - (1 : Int32)) - (1 : Int32)) + (1 : Int32)))])) (fun t k => XS.iloadN X244.here hx rfl (hb hby at_180) rfl k) ?_
    refine own_fwd (B := T244.setTop (mkF m 182 #[.val (.int p1), .val (.int p2), .val (.ref b1), .val (.ref b5), .val (.ref b11), .val (.ref b17), .val (.ref b23), .val (.ref b27), .val (.int ((p1 &&& (2147483647 : Int32)) % (3 : Int32))), .val (.ref b11), .val (.int (1 : Int32)), .val (.int (1 : Int32)), .val (.int ((p2 - (1 : Int32)) - (1 : Int32)))] [(.int (1 : Int32)), (.int p2), (.int (((p2 - (1 : Int32)) - (1 : Int32)) + (1 : Int32)))])) (fun t k => XS.iconst X244.here hx rfl (hb hby at_181) k) ?_
    refine own_fwd (B := T244.setTop (mkF m 183 #[.val (.int p1), .val (.int p2), .val (.ref b1), .val (.ref b5), .val (.ref b11), .val (.ref b17), .val (.ref b23), .val (.ref b27), .val (.int ((p1 &&& (2147483647 : Int32)) % (3 : Int32))), .val (.ref b11), .val (.int (1 : Int32)), .val (.int (1 : Int32)), .val (.int ((p2 - (1 : Int32)) - (1 : Int32)))] [(.int (p2 - (1 : Int32))), (.int (((p2 - (1 : Int32)) - (1 : Int32)) + (1 : Int32)))])) (fun t k => XS.isub X244.here hx rfl (hb hby at_182) rfl k) ?_
    refine own_fwd (B := T244.setTop (mkF m 186 #[.val (.int p1), .val (.int p2), .val (.ref b1), .val (.ref b5), .val (.ref b11), .val (.ref b17), .val (.ref b23), .val (.ref b27), .val (.int ((p1 &&& (2147483647 : Int32)) % (3 : Int32))), .val (.ref b11), .val (.int (1 : Int32)), .val (.int (1 : Int32)), .val (.int ((p2 - (1 : Int32)) - (1 : Int32)))] [])) (fun t k => XS.icmpNo X244.here hx rfl (hb hby at_183) rfl (teq (Int32.sub_add_cancel _ _ : (((p2 - (1 : Int32)) - (1 : Int32)) + (1 : Int32)) = (p2 - (1 : Int32)))).2 k) ?_
    refine own_fwd (B := T244.setTop (mkF m 187 #[.val (.int p1), .val (.int p2), .val (.ref b1), .val (.ref b5), .val (.ref b11), .val (.ref b17), .val (.ref b23), .val (.ref b27), .val (.int ((p1 &&& (2147483647 : Int32)) % (3 : Int32))), .val (.ref b11), .val (.int (1 : Int32)), .val (.int (1 : Int32)), .val (.int ((p2 - (1 : Int32)) - (1 : Int32)))] [(.int (1 : Int32))])) (fun t k => XS.iconst X244.here hx rfl (hb hby at_186) k) ?_
    refine own_fwd (B := T244.setTop (mkF m 191 #[.val (.int p1), .val (.int p2), .val (.ref b1), .val (.ref b5), .val (.ref b11), .val (.ref b17), .val (.ref b23), .val (.ref b27), .val (.int ((p1 &&& (2147483647 : Int32)) % (3 : Int32))), .val (.ref b11), .val (.int (1 : Int32)), .val (.int (1 : Int32)), .val (.int ((p2 - (1 : Int32)) - (1 : Int32)))] [(.int (1 : Int32))])) (fun t k => XS.goto X244.here hx rfl (pc0 := 187) (pc' := 191) rfl (hb hby at_187) (by decide) (by decide) k) ?_
    obtain ⟨fs, hr, hrun, hended, hEv, hW, hI, hsame⟩ := X244.leaveW hS19 (by rw [e244]; exact hk236) (v := some (.int (1 : Int32))) (fun h => by rw [Bd.returns] at h; cases h)
    refine ⟨_, _, retN X244 hx (t := .boolean) Bd.returns (by simp) (hb hby at_191) hr, hrun, hended, _, _, rfl, ?_, ⟨_, rfl⟩, hW, hI, hsame.mono (by decide) (by decide)⟩
    show Q_rm0 Z p1 p2 w k ki ka kb oa ok h0 n0 _ T244.heap _
    rw [e244]
    exact ⟨rfl, N244⟩
  refine own_fwd (B := T178.setTop (mkF m 121 #[.val (.int p1), .val (.int p2), .val (.ref b1), .val (.ref b5), .val (.ref b11), .val (.ref b17), .val (.ref b23), .val (.ref b27), .val (.int ((p1 &&& (2147483647 : Int32)) % (3 : Int32))), .unset, .unset, .unset, .unset] [])) (fun t k => XS.icmpYes X178.here hx rfl (pc0 := 113) (pc' := 121) rfl (hb hby at_113) rfl (feq hc113).2 (by decide) (by decide) k) ?_
  refine own_fwd (B := T178.setTop (mkF m 123 #[.val (.int p1), .val (.int p2), .val (.ref b1), .val (.ref b5), .val (.ref b11), .val (.ref b17), .val (.ref b23), .val (.ref b27), .val (.int ((p1 &&& (2147483647 : Int32)) % (3 : Int32))), .unset, .unset, .unset, .unset] [(.ref b17)])) (fun t k => XS.aload X178.here hx rfl (hb hby at_121) rfl rfl k) ?_
  refine own_fwd (B := T178.setTop (mkF m 125 #[.val (.int p1), .val (.int p2), .val (.ref b1), .val (.ref b5), .val (.ref b11), .val (.ref b17), .val (.ref b23), .val (.ref b27), .val (.int ((p1 &&& (2147483647 : Int32)) % (3 : Int32))), .val (.ref b17), .unset, .unset, .unset] [])) (fun t k => XS.astore X178.here hx rfl (hb hby at_123) rfl rfl (l' := #[.val (.int p1), .val (.int p2), .val (.ref b1), .val (.ref b5), .val (.ref b11), .val (.ref b17), .val (.ref b23), .val (.ref b27), .val (.int ((p1 &&& (2147483647 : Int32)) % (3 : Int32))), .val (.ref b17), .unset, .unset, .unset]) rfl k) ?_
  refine own_fwd (B := T178.setTop (mkF m 127 #[.val (.int p1), .val (.int p2), .val (.ref b1), .val (.ref b5), .val (.ref b11), .val (.ref b17), .val (.ref b23), .val (.ref b27), .val (.int ((p1 &&& (2147483647 : Int32)) % (3 : Int32))), .val (.ref b17), .unset, .unset, .unset] [(.int ((p1 &&& (2147483647 : Int32)) % (3 : Int32)))])) (fun t k => XS.iload X178.here hx rfl (hb hby at_125) rfl k) ?_
  refine own_fwd (B := T178.setTop (mkF m 134 #[.val (.int p1), .val (.int p2), .val (.ref b1), .val (.ref b5), .val (.ref b11), .val (.ref b17), .val (.ref b23), .val (.ref b27), .val (.int ((p1 &&& (2147483647 : Int32)) % (3 : Int32))), .val (.ref b17), .unset, .unset, .unset] [])) (fun t k => XS.ifYes X178.here hx rfl (pc0 := 127) (pc' := 134) rfl (hb hby at_127) rfl ((if0 _ _).trans (feq (hc103 : ¬ (((p1 &&& (2147483647 : Int32)) % (3 : Int32)) = (0 : Int32)))).2) (by decide) (by decide) k) ?_
  refine own_fwd (B := T178.setTop (mkF m 135 #[.val (.int p1), .val (.int p2), .val (.ref b1), .val (.ref b5), .val (.ref b11), .val (.ref b17), .val (.ref b23), .val (.ref b27), .val (.int ((p1 &&& (2147483647 : Int32)) % (3 : Int32))), .val (.ref b17), .unset, .unset, .unset] [(.int (1 : Int32))])) (fun t k => XS.iconst X178.here hx rfl (hb hby at_134) k) ?_
  refine own_fwd (B := T178.setTop (mkF m 137 #[.val (.int p1), .val (.int p2), .val (.ref b1), .val (.ref b5), .val (.ref b11), .val (.ref b17), .val (.ref b23), .val (.ref b27), .val (.int ((p1 &&& (2147483647 : Int32)) % (3 : Int32))), .val (.ref b17), .val (.int (1 : Int32)), .unset, .unset] [])) (fun t k => XS.istore X178.here hx rfl (hb hby at_135) rfl (l' := #[.val (.int p1), .val (.int p2), .val (.ref b1), .val (.ref b5), .val (.ref b11), .val (.ref b17), .val (.ref b23), .val (.ref b27), .val (.int ((p1 &&& (2147483647 : Int32)) % (3 : Int32))), .val (.ref b17), .val (.int (1 : Int32)), .unset, .unset]) rfl k) ?_
  refine own_fwd (B := T178.setTop (mkF m 138 #[.val (.int p1), .val (.int p2), .val (.ref b1), .val (.ref b5), .val (.ref b11), .val (.ref b17), .val (.ref b23), .val (.ref b27), .val (.int ((p1 &&& (2147483647 : Int32)) % (3 : Int32))), .val (.ref b17), .val (.int (1 : Int32)), .unset, .unset] [(.ref b1)])) (fun t k => XS.aloadN X178.here hx rfl (hb hby at_137) rfl rfl k) ?_
  refine own_fwd (B := T178.setTop (mkF m 140 #[.val (.int p1), .val (.int p2), .val (.ref b1), .val (.ref b5), .val (.ref b11), .val (.ref b17), .val (.ref b23), .val (.ref b27), .val (.int ((p1 &&& (2147483647 : Int32)) % (3 : Int32))), .val (.ref b17), .val (.int (1 : Int32)), .unset, .unset] [(.ref b17), (.ref b1)])) (fun t k => XS.aload X178.here hx rfl (hb hby at_138) rfl rfl k) ?_
  refine own_fwd (B := T178.setTop (mkF m 141 #[.val (.int p1), .val (.int p2), .val (.ref b1), .val (.ref b5), .val (.ref b11), .val (.ref b17), .val (.ref b23), .val (.ref b27), .val (.int ((p1 &&& (2147483647 : Int32)) % (3 : Int32))), .val (.ref b17), .val (.int (1 : Int32)), .unset, .unset] [(.int (0 : Int32)), (.ref b17), (.ref b1)])) (fun t k => XS.iconst X178.here hx rfl (hb hby at_140) k) ?_
  refine own_fwd (B := T178.setTop (mkF m 142 #[.val (.int p1), .val (.int p2), .val (.ref b1), .val (.ref b5), .val (.ref b11), .val (.ref b17), .val (.ref b23), .val (.ref b27), .val (.int ((p1 &&& (2147483647 : Int32)) % (3 : Int32))), .val (.ref b17), .val (.int (1 : Int32)), .unset, .unset] [(.int p2), (.int (0 : Int32)), (.ref b17), (.ref b1)])) (fun t k => XS.iloadN X178.here hx rfl (hb hby at_141) rfl k) ?_
  have f246 := (((f84.keep K35q).keep K86q).keep K178q)
  obtain ⟨cq245, kq245, q245a, q245b, q245c⟩ := isOf hZ19 rfl f246
  obtain ⟨_, _, ⟨T245, L245, k245, n245⟩, -, X245, ⟨Lc245, hQ245, l245, y245, z245⟩, st245⟩ := X178.virtualBack hx (y := yy4) (z := yy4) hown19 (mvT hZ19 (W 417 rfl)) (mvT hZ19 (W 418 rfl)) (notFace_of_selects (args := #[]) (mvT hZ19 (W 420 rfl))) (mvT hZ19 (W 420 rfl)) (mvT hZ19 (W 419 rfl)) (by decide) (backOf (W := 0) (rm54_114 W ⟨Z236, O236⟩ (f208.keep K178q) R178_17) hZ19 (W 421 rfl) (W 2 rfl) (by decide) (by decide)) q245a q245c (g := (mkF m 142 #[.val (.int p1), .val (.int p2), .val (.ref b1), .val (.ref b5), .val (.ref b11), .val (.ref b17), .val (.ref b23), .val (.ref b27), .val (.int ((p1 &&& (2147483647 : Int32)) % (3 : Int32))), .val (.ref b17), .val (.int (1 : Int32)), .unset, .unset] [(.int p2), (.int (0 : Int32)), (.ref b17), (.ref b1)])) rfl (by rw [hml]; rfl) (Steps.refl _) (argsL := [(.ref b17), (.int (0 : Int32)), (.int p2)]) (rest := []) (lenOf pd_32 rfl) rfl (by show 2 * 0 + _ ≤ _; exact Nat.le_of_eq rfl) (hb hby at_142) (fun _ _ => ⟨rfl, rfl, (by decide : 38 + 0 ≤ _), (by decide : 188 + 0 ≤ _)⟩)
  dsimp only [Pt.U, Pt.locs, Pt.cells, Pt.slots] at X245 l245 y245 z245 st245 hQ245
  subst l245 y245 z245
  obtain ⟨rfl, N245q, e245⟩ := hQ245
  have N245 := Fr.app N178 N245q
  refine own_fwd (B := T245.setTop (mkF m 145 #[.val (.int p1), .val (.int p2), .val (.ref b1), .val (.ref b5), .val (.ref b11), .val (.ref b17), .val (.ref b23), .val (.ref b27), .val (.int ((p1 &&& (2147483647 : Int32)) % (3 : Int32))), .val (.ref b17), .val (.int (1 : Int32)), .unset, .unset] [(.int (1 : Int32))])) (fun t k => st245.trans k) ?_
  refine own_fwd (B := T245.setTop (mkF m 147 #[.val (.int p1), .val (.int p2), .val (.ref b1), .val (.ref b5), .val (.ref b11), .val (.ref b17), .val (.ref b23), .val (.ref b27), .val (.int ((p1 &&& (2147483647 : Int32)) % (3 : Int32))), .val (.ref b17), .val (.int (1 : Int32)), .val (.int (1 : Int32)), .unset] [])) (fun t k => XS.istore X245.here hx rfl (hb hby at_145) rfl (l' := #[.val (.int p1), .val (.int p2), .val (.ref b1), .val (.ref b5), .val (.ref b11), .val (.ref b17), .val (.ref b23), .val (.ref b27), .val (.int ((p1 &&& (2147483647 : Int32)) % (3 : Int32))), .val (.ref b17), .val (.int (1 : Int32)), .val (.int (1 : Int32)), .unset]) rfl k) ?_
  refine own_fwd (B := T245.setTop (mkF m 148 #[.val (.int p1), .val (.int p2), .val (.ref b1), .val (.ref b5), .val (.ref b11), .val (.ref b17), .val (.ref b23), .val (.ref b27), .val (.int ((p1 &&& (2147483647 : Int32)) % (3 : Int32))), .val (.ref b17), .val (.int (1 : Int32)), .val (.int (1 : Int32)), .unset] [(.ref b1)])) (fun t k => XS.aloadN X245.here hx rfl (hb hby at_147) rfl rfl k) ?_
  refine own_fwd (B := T245.setTop (mkF m 150 #[.val (.int p1), .val (.int p2), .val (.ref b1), .val (.ref b5), .val (.ref b11), .val (.ref b17), .val (.ref b23), .val (.ref b27), .val (.int ((p1 &&& (2147483647 : Int32)) % (3 : Int32))), .val (.ref b17), .val (.int (1 : Int32)), .val (.int (1 : Int32)), .unset] [(.ref b17), (.ref b1)])) (fun t k => XS.aload X245.here hx rfl (hb hby at_148) rfl rfl k) ?_
  refine own_fwd (B := T245.setTop (mkF m 151 #[.val (.int p1), .val (.int p2), .val (.ref b1), .val (.ref b5), .val (.ref b11), .val (.ref b17), .val (.ref b23), .val (.ref b27), .val (.int ((p1 &&& (2147483647 : Int32)) % (3 : Int32))), .val (.ref b17), .val (.int (1 : Int32)), .val (.int (1 : Int32)), .unset] [(.int (1 : Int32)), (.ref b17), (.ref b1)])) (fun t k => XS.iconst X245.here hx rfl (hb hby at_150) k) ?_
  refine own_fwd (B := T245.setTop (mkF m 152 #[.val (.int p1), .val (.int p2), .val (.ref b1), .val (.ref b5), .val (.ref b11), .val (.ref b17), .val (.ref b23), .val (.ref b27), .val (.int ((p1 &&& (2147483647 : Int32)) % (3 : Int32))), .val (.ref b17), .val (.int (1 : Int32)), .val (.int (1 : Int32)), .unset] [(.int p2), (.int (1 : Int32)), (.ref b17), (.ref b1)])) (fun t k => XS.iloadN X245.here hx rfl (hb hby at_151) rfl k) ?_
  obtain ⟨cq247, kq247, q247a, q247b, q247c⟩ := isOf hZ19 e245 f246
  obtain ⟨_, _, ⟨T247, L247, k247, n247⟩, -, X247, ⟨Lc247, hQ247, l247, y247, z247⟩, st247⟩ := X245.virtualBack hx (y := yy4) (z := yy4) hown19 (mvT hZ19 (W 417 rfl)) (mvT hZ19 (W 418 rfl)) (notFace_of_selects (args := #[]) (mvT hZ19 (W 420 rfl))) (mvT hZ19 (W 420 rfl)) (mvT hZ19 (W 419 rfl)) (by decide) (backOf (W := 0) (rm54_116 W ⟨Z236, O236⟩ (f208.keep K178q) R178_17) hZ19 (W 421 rfl) (W 2 rfl) (by decide) (by decide)) q247a q247c (g := (mkF m 152 #[.val (.int p1), .val (.int p2), .val (.ref b1), .val (.ref b5), .val (.ref b11), .val (.ref b17), .val (.ref b23), .val (.ref b27), .val (.int ((p1 &&& (2147483647 : Int32)) % (3 : Int32))), .val (.ref b17), .val (.int (1 : Int32)), .val (.int (1 : Int32)), .unset] [(.int p2), (.int (1 : Int32)), (.ref b17), (.ref b1)])) rfl (by rw [hml]; rfl) (Steps.refl _) (argsL := [(.ref b17), (.int (1 : Int32)), (.int p2)]) (rest := []) (lenOf pd_32 rfl) rfl (by show 2 * 0 + _ ≤ _; exact Nat.le_of_eq rfl) (hb hby at_152) (fun _ _ => ⟨rfl, e245, (by decide : 38 + 0 ≤ _), (by decide : 188 + 0 ≤ _)⟩)
  dsimp only [Pt.U, Pt.locs, Pt.cells, Pt.slots] at X247 l247 y247 z247 st247 hQ247
  subst l247 y247 z247
  obtain ⟨rfl, N247q, e247⟩ := hQ247
  have N247 := Fr.app N245 N247q
  refine own_fwd (B := T247.setTop (mkF m 155 #[.val (.int p1), .val (.int p2), .val (.ref b1), .val (.ref b5), .val (.ref b11), .val (.ref b17), .val (.ref b23), .val (.ref b27), .val (.int ((p1 &&& (2147483647 : Int32)) % (3 : Int32))), .val (.ref b17), .val (.int (1 : Int32)), .val (.int (1 : Int32)), .unset] [(.int ((p2 - (1 : Int32)) - (1 : Int32)))])) (fun t k => st247.trans k) ?_
  refine own_fwd (B := T247.setTop (mkF m 157 #[.val (.int p1), .val (.int p2), .val (.ref b1), .val (.ref b5), .val (.ref b11), .val (.ref b17), .val (.ref b23), .val (.ref b27), .val (.int ((p1 &&& (2147483647 : Int32)) % (3 : Int32))), .val (.ref b17), .val (.int (1 : Int32)), .val (.int (1 : Int32)), .val (.int ((p2 - (1 : Int32)) - (1 : Int32)))] [])) (fun t k => XS.istore X247.here hx rfl (hb hby at_155) rfl (l' := #[.val (.int p1), .val (.int p2), .val (.ref b1), .val (.ref b5), .val (.ref b11), .val (.ref b17), .val (.ref b23), .val (.ref b27), .val (.int ((p1 &&& (2147483647 : Int32)) % (3 : Int32))), .val (.ref b17), .val (.int (1 : Int32)), .val (.int (1 : Int32)), .val (.int ((p2 - (1 : Int32)) - (1 : Int32)))]) rfl k) ?_
  refine own_fwd (B := T247.setTop (mkF m 159 #[.val (.int p1), .val (.int p2), .val (.ref b1), .val (.ref b5), .val (.ref b11), .val (.ref b17), .val (.ref b23), .val (.ref b27), .val (.int ((p1 &&& (2147483647 : Int32)) % (3 : Int32))), .val (.ref b17), .val (.int (1 : Int32)), .val (.int (1 : Int32)), .val (.int ((p2 - (1 : Int32)) - (1 : Int32)))] [(.int (1 : Int32))])) (fun t k => XS.iload X247.here hx rfl (hb hby at_157) rfl k) ?_
  refine own_fwd (B := T247.setTop (mkF m 161 #[.val (.int p1), .val (.int p2), .val (.ref b1), .val (.ref b5), .val (.ref b11), .val (.ref b17), .val (.ref b23), .val (.ref b27), .val (.int ((p1 &&& (2147483647 : Int32)) % (3 : Int32))), .val (.ref b17), .val (.int (1 : Int32)), .val (.int (1 : Int32)), .val (.int ((p2 - (1 : Int32)) - (1 : Int32)))] [(.int (1 : Int32)), (.int (1 : Int32))])) (fun t k => XS.iload X247.here hx rfl (hb hby at_159) rfl k) ?_
  refine own_fwd (B := T247.setTop (mkF m 164 #[.val (.int p1), .val (.int p2), .val (.ref b1), .val (.ref b5), .val (.ref b11), .val (.ref b17), .val (.ref b23), .val (.ref b27), .val (.int ((p1 &&& (2147483647 : Int32)) % (3 : Int32))), .val (.ref b17), .val (.int (1 : Int32)), .val (.int (1 : Int32)), .val (.int ((p2 - (1 : Int32)) - (1 : Int32)))] [])) (fun t k => XS.icmpNo X247.here hx rfl (hb hby at_161) rfl (teq (by decide : (1 : Int32) = (1 : Int32))).2 k) ?_
  refine own_fwd (B := T247.setTop (mkF m 166 #[.val (.int p1), .val (.int p2), .val (.ref b1), .val (.ref b5), .val (.ref b11), .val (.ref b17), .val (.ref b23), .val (.ref b27), .val (.int ((p1 &&& (2147483647 : Int32)) % (3 : Int32))), .val (.ref b17), .val (.int (1 : Int32)), .val (.int (1 : Int32)), .val (.int ((p2 - (1 : Int32)) - (1 : Int32)))] [(.int ((p2 - (1 : Int32)) - (1 : Int32)))])) (fun t k => XS.iload X247.here hx rfl (hb hby at_164) rfl k) ?_
  refine own_fwd (B := T247.setTop (mkF m 167 #[.val (.int p1), .val (.int p2), .val (.ref b1), .val (.ref b5), .val (.ref b11), .val (.ref b17), .val (.ref b23), .val (.ref b27), .val (.int ((p1 &&& (2147483647 : Int32)) % (3 : Int32))), .val (.ref b17), .val (.int (1 : Int32)), .val (.int (1 : Int32)), .val (.int ((p2 - (1 : Int32)) - (1 : Int32)))] [(.int p2), (.int ((p2 - (1 : Int32)) - (1 : Int32)))])) (fun t k => XS.iloadN X247.here hx rfl (hb hby at_166) rfl k) ?_
  refine own_fwd (B := T247.setTop (mkF m 168 #[.val (.int p1), .val (.int p2), .val (.ref b1), .val (.ref b5), .val (.ref b11), .val (.ref b17), .val (.ref b23), .val (.ref b27), .val (.int ((p1 &&& (2147483647 : Int32)) % (3 : Int32))), .val (.ref b17), .val (.int (1 : Int32)), .val (.int (1 : Int32)), .val (.int ((p2 - (1 : Int32)) - (1 : Int32)))] [(.int (1 : Int32)), (.int p2), (.int ((p2 - (1 : Int32)) - (1 : Int32)))])) (fun t k => XS.iconst X247.here hx rfl (hb hby at_167) k) ?_
  refine own_fwd (B := T247.setTop (mkF m 169 #[.val (.int p1), .val (.int p2), .val (.ref b1), .val (.ref b5), .val (.ref b11), .val (.ref b17), .val (.ref b23), .val (.ref b27), .val (.int ((p1 &&& (2147483647 : Int32)) % (3 : Int32))), .val (.ref b17), .val (.int (1 : Int32)), .val (.int (1 : Int32)), .val (.int ((p2 - (1 : Int32)) - (1 : Int32)))] [(.int (p2 - (1 : Int32))), (.int ((p2 - (1 : Int32)) - (1 : Int32)))])) (fun t k => XS.isub X247.here hx rfl (hb hby at_168) rfl k) ?_
  refine own_fwd (B := T247.setTop (mkF m 171 #[.val (.int p1), .val (.int p2), .val (.ref b1), .val (.ref b5), .val (.ref b11), .val (.ref b17), .val (.ref b23), .val (.ref b27), .val (.int ((p1 &&& (2147483647 : Int32)) % (3 : Int32))), .val (.ref b17), .val (.int (1 : Int32)), .val (.int (1 : Int32)), .val (.int ((p2 - (1 : Int32)) - (1 : Int32)))] [(.int (1 : Int32)), (.int (p2 - (1 : Int32))), (.int ((p2 - (1 : Int32)) - (1 : Int32)))])) (fun t k => XS.iload X247.here hx rfl (hb hby at_169) rfl k) ?_
  refine own_fwd (B := T247.setTop (mkF m 172 #[.val (.int p1), .val (.int p2), .val (.ref b1), .val (.ref b5), .val (.ref b11), .val (.ref b17), .val (.ref b23), .val (.ref b27), .val (.int ((p1 &&& (2147483647 : Int32)) % (3 : Int32))), .val (.ref b17), .val (.int (1 : Int32)), .val (.int (1 : Int32)), .val (.int ((p2 - (1 : Int32)) - (1 : Int32)))] [(.int ((p2 - (1 : Int32)) - (1 : Int32))), (.int ((p2 - (1 : Int32)) - (1 : Int32)))])) (fun t k => XS.isub X247.here hx rfl (hb hby at_171) rfl k) ?_
  refine own_fwd (B := T247.setTop (mkF m 175 #[.val (.int p1), .val (.int p2), .val (.ref b1), .val (.ref b5), .val (.ref b11), .val (.ref b17), .val (.ref b23), .val (.ref b27), .val (.int ((p1 &&& (2147483647 : Int32)) % (3 : Int32))), .val (.ref b17), .val (.int (1 : Int32)), .val (.int (1 : Int32)), .val (.int ((p2 - (1 : Int32)) - (1 : Int32)))] [])) (fun t k => XS.icmpNo X247.here hx rfl (hb hby at_172) rfl (teq (rfl : ((p2 - (1 : Int32)) - (1 : Int32)) = ((p2 - (1 : Int32)) - (1 : Int32)))).2 k) ?_
  refine own_fwd (B := T247.setTop (mkF m 177 #[.val (.int p1), .val (.int p2), .val (.ref b1), .val (.ref b5), .val (.ref b11), .val (.ref b17), .val (.ref b23), .val (.ref b27), .val (.int ((p1 &&& (2147483647 : Int32)) % (3 : Int32))), .val (.ref b17), .val (.int (1 : Int32)), .val (.int (1 : Int32)), .val (.int ((p2 - (1 : Int32)) - (1 : Int32)))] [(.int ((p2 - (1 : Int32)) - (1 : Int32)))])) (fun t k => XS.iload X247.here hx rfl (hb hby at_175) rfl k) ?_
  refine own_fwd (B := T247.setTop (mkF m 179 #[.val (.int p1), .val (.int p2), .val (.ref b1), .val (.ref b5), .val (.ref b11), .val (.ref b17), .val (.ref b23), .val (.ref b27), .val (.int ((p1 &&& (2147483647 : Int32)) % (3 : Int32))), .val (.ref b17), .val (.int (1 : Int32)), .val (.int (1 : Int32)), .val (.int ((p2 - (1 : Int32)) - (1 : Int32)))] [(.int (1 : Int32)), (.int ((p2 - (1 : Int32)) - (1 : Int32)))])) (fun t k => XS.iload X247.here hx rfl (hb hby at_177) rfl k) ?_
  refine own_fwd (B := T247.setTop (mkF m 180 #[.val (.int p1), .val (.int p2), .val (.ref b1), .val (.ref b5), .val (.ref b11), .val (.ref b17), .val (.ref b23), .val (.ref b27), .val (.int ((p1 &&& (2147483647 : Int32)) % (3 : Int32))), .val (.ref b17), .val (.int (1 : Int32)), .val (.int (1 : Int32)), .val (.int ((p2 - (1 : Int32)) - (1 : Int32)))] [(.int (((p2 - (1 : Int32)) - (1 : Int32)) + (1 : Int32)))])) (fun t k => XS.iadd X247.here hx rfl (hb hby at_179) rfl k) ?_
  refine own_fwd (B := T247.setTop (mkF m 181 #[.val (.int p1), .val (.int p2), .val (.ref b1), .val (.ref b5), .val (.ref b11), .val (.ref b17), .val (.ref b23), .val (.ref b27), .val (.int ((p1 &&& (2147483647 : Int32)) % (3 : Int32))), .val (.ref b17), .val (.int (1 : Int32)), .val (.int (1 : Int32)), .val (.int ((p2 - (1 : Int32)) - (1 : Int32)))] [(.int p2), (.int (((p2 - (1 : Int32)) - (1 : Int32)) + (1 : Int32)))])) (fun t k => XS.iloadN X247.here hx rfl (hb hby at_180) rfl k) ?_
  refine own_fwd (B := T247.setTop (mkF m 182 #[.val (.int p1), .val (.int p2), .val (.ref b1), .val (.ref b5), .val (.ref b11), .val (.ref b17), .val (.ref b23), .val (.ref b27), .val (.int ((p1 &&& (2147483647 : Int32)) % (3 : Int32))), .val (.ref b17), .val (.int (1 : Int32)), .val (.int (1 : Int32)), .val (.int ((p2 - (1 : Int32)) - (1 : Int32)))] [(.int (1 : Int32)), (.int p2), (.int (((p2 - (1 : Int32)) - (1 : Int32)) + (1 : Int32)))])) (fun t k => XS.iconst X247.here hx rfl (hb hby at_181) k) ?_
  refine own_fwd (B := T247.setTop (mkF m 183 #[.val (.int p1), .val (.int p2), .val (.ref b1), .val (.ref b5), .val (.ref b11), .val (.ref b17), .val (.ref b23), .val (.ref b27), .val (.int ((p1 &&& (2147483647 : Int32)) % (3 : Int32))), .val (.ref b17), .val (.int (1 : Int32)), .val (.int (1 : Int32)), .val (.int ((p2 - (1 : Int32)) - (1 : Int32)))] [(.int (p2 - (1 : Int32))), (.int (((p2 - (1 : Int32)) - (1 : Int32)) + (1 : Int32)))])) (fun t k => XS.isub X247.here hx rfl (hb hby at_182) rfl k) ?_
  refine own_fwd (B := T247.setTop (mkF m 186 #[.val (.int p1), .val (.int p2), .val (.ref b1), .val (.ref b5), .val (.ref b11), .val (.ref b17), .val (.ref b23), .val (.ref b27), .val (.int ((p1 &&& (2147483647 : Int32)) % (3 : Int32))), .val (.ref b17), .val (.int (1 : Int32)), .val (.int (1 : Int32)), .val (.int ((p2 - (1 : Int32)) - (1 : Int32)))] [])) (fun t k => XS.icmpNo X247.here hx rfl (hb hby at_183) rfl (teq (Int32.sub_add_cancel _ _ : (((p2 - (1 : Int32)) - (1 : Int32)) + (1 : Int32)) = (p2 - (1 : Int32)))).2 k) ?_
  refine own_fwd (B := T247.setTop (mkF m 187 #[.val (.int p1), .val (.int p2), .val (.ref b1), .val (.ref b5), .val (.ref b11), .val (.ref b17), .val (.ref b23), .val (.ref b27), .val (.int ((p1 &&& (2147483647 : Int32)) % (3 : Int32))), .val (.ref b17), .val (.int (1 : Int32)), .val (.int (1 : Int32)), .val (.int ((p2 - (1 : Int32)) - (1 : Int32)))] [(.int (1 : Int32))])) (fun t k => XS.iconst X247.here hx rfl (hb hby at_186) k) ?_
  refine own_fwd (B := T247.setTop (mkF m 191 #[.val (.int p1), .val (.int p2), .val (.ref b1), .val (.ref b5), .val (.ref b11), .val (.ref b17), .val (.ref b23), .val (.ref b27), .val (.int ((p1 &&& (2147483647 : Int32)) % (3 : Int32))), .val (.ref b17), .val (.int (1 : Int32)), .val (.int (1 : Int32)), .val (.int ((p2 - (1 : Int32)) - (1 : Int32)))] [(.int (1 : Int32))])) (fun t k => XS.goto X247.here hx rfl (pc0 := 187) (pc' := 191) rfl (hb hby at_187) (by decide) (by decide) k) ?_
  obtain ⟨fs, hr, hrun, hended, hEv, hW, hI, hsame⟩ := X247.leaveW hS19 (by rw [e247]; exact hk236) (v := some (.int (1 : Int32))) (fun h => by rw [Bd.returns] at h; cases h)
  refine ⟨_, _, retN X247 hx (t := .boolean) Bd.returns (by simp) (hb hby at_191) hr, hrun, hended, _, _, rfl, ?_, ⟨_, rfl⟩, hW, hI, hsame.mono (by decide) (by decide)⟩
  show Q_rm0 Z p1 p2 w k ki ka kb oa ok h0 n0 _ T247.heap _
  rw [e247]
  exact ⟨rfl, N247⟩
set_option maxRecDepth 65536 in
set_option maxHeartbeats 40000000 in
theorem comes_1 {Post : Tables → Env → Array Value → State → Outcome → State → Prop} (hpost : ∀ tb e args s v u, (limb_1_1.after args s (.returned v) u = true ∧ limb_1_2.after args s (.returned v) u = true ∧ True) → ReturnedEndW s (.returned v) u (Jvm.fieldLocs frame_1_writes args s ++ Jvm.arrayLocs frame_1_arrays args s ++ Jvm.staticLocs frame_1_statics s) 80 3520 → Post tb e args s (.returned v) u) :
    ArmFor flags0 classFile x code maxLocals ret World_1 tables_1 room_1 Calls_1 rest_1 Pre_1 Post := by
  intro l hfl _ _ p e ha hc hk s m args below hf hA hF happ hP
  obtain ⟨hcalls, hrest, hpre⟩ := hP
  obtain ⟨-, -, -, hnamed, -, -, -, hat⟩ := (Spec.applies_iff hf).mp happ
  obtain ⟨hg, hn⟩ := and_e (Cond.before_iff.mp (show (Jvm.Cond.and given_1 narrow_1).before args s = true from hpre))
  obtain ⟨hg0, hgr0⟩ := and_e hg
  obtain ⟨hga0, hgr1⟩ := and_e hgr0
  have hga1 := hgr1
  obtain ⟨w0, w1, rfl⟩ : ∃ w0 w1 : Value, args = #[w0, w1] := by
    have hs : args.size = 2 := by simpa [Cond.value, given_1] using hg0
    obtain ⟨L⟩ := args
    match L, hs with
    | [w0, w1], _ => exact ⟨w0, w1, rfl⟩
  have hw := fun d (hd : d ∈ tables_1) => atoms_spec (ws := Jvm.Cond.code x code maxLocals ret :: tables_1) hat d (List.mem_cons_of_mem _ hd)
  have hfit : Fit s := fun {y c} hc i hi => by
    obtain ⟨ha, rfl⟩ := Array.getElem?_eq_some_iff.mp hc
    have q := List.all_eq_true.mp ((Array.all_eq_true_iff_forall_mem.mp hF) _ (Array.getElem_mem ha)) i (List.mem_range.mpr hi)
    simpa [Array.getElem?_eq_getElem hi] using q
  obtain ⟨hsets, hown0⟩ := atoms_of _ (rest_1_c_eq ▸ (show rest_1_c.before _ s = true from hrest))
  have hr0 := Cond.before_iff.mp hown0
  obtain ⟨i0, ei0⟩ := is_v hga0
  obtain rfl : w0 = (.int i0) := Option.some.inj ei0
  obtain ⟨i1, ei1⟩ := is_v hga1
  obtain rfl : w1 = (.int i1) := Option.some.inj ei1
  obtain ⟨cD, evD⟩ := exa_v (Cond.before_iff.mp (hsets _ (List.mem_of_getElem? (i := 7) rfl)))
  have stD := Sta.start evD (Or.inr ⟨(hw _ (List.mem_of_getElem? (i := 23) rfl)), (hsets _ (List.mem_of_getElem? (i := 2) rfl))⟩)
  obtain ⟨kD, avD⟩ := own_arr0 .null evD (Cond.before_iff.mp (hsets _ (List.mem_of_getElem? (i := 6) rfl))) (Cond.before_iff.mp (hsets _ (List.mem_of_getElem? (i := 8) rfl)))
  obtain ⟨na0, nar0⟩ := and_e hn
  obtain ⟨na1, nar1⟩ := and_e nar0
  obtain ⟨na2, nar2⟩ := and_e nar1
  obtain ⟨na3, nar3⟩ := and_e nar2
  obtain ⟨na4, nar4⟩ := and_e nar3
  obtain ⟨na5, nar5⟩ := and_e nar4
  obtain ⟨na6, nar6⟩ := and_e nar5
  obtain ⟨na7, nar7⟩ := and_e nar6
  have na8 := nar7
  obtain ⟨ci, evi, exi, stai⟩ := own_enum na0 (hw _ (List.mem_of_getElem? (i := 59) rfl)) (hw _ (List.mem_of_getElem? (i := 60) rfl))
  obtain ⟨ca, eva, exa, staa⟩ := own_enum na2 (hw _ (List.mem_of_getElem? (i := 59) rfl)) (hw _ (List.mem_of_getElem? (i := 322) rfl))
  obtain ⟨cb, evb, exb, stab⟩ := own_enum na5 (hw _ (List.mem_of_getElem? (i := 59) rfl)) (hw _ (List.mem_of_getElem? (i := 324) rfl))
  obtain ⟨co, evo, exo, stao⟩ := own_enum na1 (hw _ (List.mem_of_getElem? (i := 198) rfl)) (hw _ (List.mem_of_getElem? (i := 201) rfl))
  obtain ⟨ck, evk, exk, stak⟩ := own_enum na7 (hw _ (List.mem_of_getElem? (i := 378) rfl)) (hw _ (List.mem_of_getElem? (i := 379) rfl))
  have ordi := own_fld evi (Term.int_eval 2) na3
  have orda := own_fld eva (Term.int_eval 0) na4
  have ordb := own_fld evb (Term.int_eval 1) na6
  have fko := own_fld evo evk na8
  obtain ⟨n, o, h1, h2, h3, _, L, rfl, ⟨rfl, N⟩, hq⟩ := rm0 l s _ hw tables_1 i0 i1 cD kD ci ca cb co ck s.heap s.heap.size (Nat.le_refl _) (Old.start s) stD avD stai staa stab stao exo fko stak (Fld.ne ordi orda (fun z => absurd (Value.int.inj z) (by decide))) (Fld.ne ordi ordb (fun z => absurd (Value.int.inj z) (by decide))) (Fld.ne orda ordb (fun z => absurd (Value.int.inj z) (by decide))) p e ha hc hk s m _ below hf ((Spec.applies_iff_loose hf).mp happ).1 ⟨rfl, State.Warmed39.refl s, rfl⟩ trivial
  refine ⟨n, _, h1, h2, h3, hpost _ _ _ _ _ _ ⟨Cond.after_iff.mpr rfl, Cond.after_iff.mpr (eq_i res_at (Term.int_eval (1)) rfl), trivial⟩ ⟨hq.1, hq.2.1, hq.2.2.1, (hq.2.2.2.sift fun y hy => Or.inr (N y hy)).mono (by decide) (by decide)⟩⟩
theorem main_1_1 : Claimed_1_1 := comes_1 fun _ _ _ _ _ _ h hF => ⟨h.1, hF⟩
theorem main_1_2 : Claimed_1_2 := comes_1 fun _ _ _ _ _ _ h hF => ⟨h.2.1, hF⟩
end Jvm.Pilot.@@N@@
namespace Jvm.Pilot.@@N@@
open Jvm Jvm.ClassFile Sem Op Lib Jvm.Free Jvm.Stand Jvm.Pilot.@@N@@.Jvm.D
/-! MADE BY PROGRAM (witnessworld.py) out of the Statement's table words and the real class files: 37 classes; the members and pool entries that the words name. The judged class is class 1, her method 1. -/
namespace start1
open Jvm.ClassFile
def u (s : String) : CpInfo := .utf8 (stringToUtf16 s)
/-- a pool by its gaps: so many unusable entries, then the entry; so many at the end -/
def gap : Nat → List CpInfo → List CpInfo
  | 0, r => r
  | n + 1, r => .unusable :: gap n r
def poolList (es : List (Nat × CpInfo)) (last : Nat) : List CpInfo := es.foldr (fun e r => gap e.1 (e.2 :: r)) (gap last [])
def pool (es : List (Nat × CpInfo)) (last : Nat) : Array CpInfo := ⟨poolList es last⟩
def fileOf (pool : Array CpInfo) (this : Nat) (attrs : Array Attribute := #[]) (ms : Array MethodInfo := #[]) (fl : Nat := 33) (sup : Nat := 0) (ifs : Array Nat := #[]) (fds : Array FieldInfo := #[]) : ClassFile where
  minorVersion := 0
  majorVersion := 65
  constantPool := pool
  accessFlags := fl
  thisClass := this
  superClass := sup
  interfaces := ifs
  fields := fds
  methods := ms
  attributes := attrs
def plain (name : String) (sup : Option ClassId) : Class where
  name := name
  kind := .ordinary
  loader := none
  accessFlags := 33
  super := sup
  interfaces := #[]
  cf := none
  fields := #[]
  methods := #[]
  instanceTypes := #[]
  staticTypes := #[]
  resolved := #[]
  callSites := []
  init := .initialized
  statics := none
  mirror := none

def pool0 : Array CpInfo := pool [(5, u "<init>"), (0, u "()V"), (1, .class_ 10), (1, u "java/lang/Object")] 113

def k0c0 : Code := { maxStack := 0, maxLocals := 1, code := object_method_1_code, exceptionTable := #[], attributes := #[] }
def k0m0 : Method := { name := "<init>", desc := "()V", sig := { parameters := [], returnType := none }, accessFlags := 1, code := some k0c0 }
/-- java/lang/Object -/
def k0 : Class := { plain "java/lang/Object" none with
  accessFlags := 33
  interfaces := #[]
  cf := some (fileOf pool0 8 #[] #[{ accessFlags := 1, nameIndex := 5, descriptorIndex := 6, attributes := #[] }] 33 0 #[] #[])
  fields := #[]
  methods := #[k0m0]
  instanceTypes := #[]
  staticTypes := #[]
  resolved := Array.replicate 124 none
  statics := none }

def pool1 : Array CpInfo := pool [(2, .class_ 4), (0, .nameAndType 5 6), (0, u "java/lang/Object"), (0, u "<init>"), (0, u "()V"), (0, .class_ 8), (0, u "com/example/graphwarden/graphwarden/chain/ChainPartition"), (0, .methodref 7 3), (0, .class_ 11), (0, u "com/example/graphwarden/graphwarden/partition/OrderedPartition$Vertex"), (0, .string 13), (0, u "a"), (0, .methodref 10 15), (0, .nameAndType 5 16), (0, u "(Ljava/lang/String;)V"), (0, .string 18), (0, u "b"), (0, .string 20), (0, u "c"), (0, .class_ 22), (0, u "java/util/ArrayList"), (0, .methodref 21 3), (0, .interfaceMethodref 25 26), (0, .class_ 27), (0, .nameAndType 28 29), (0, u "java/util/List"), (0, u "add"), (0, u "(Ljava/lang/Object;)Z"), (0, .methodref 7 31), (0, .nameAndType 32 33), (0, u "addVertex"), (0, u "(Lcom/example/graphwarden/graphwarden/partition/OrderedPartition$Vertex;Ljava/util/List;)Lcom/example/graphwarden/graphwarden/Outcome;"), (0, .integer 2147483647), (0, .methodref 7 36), (0, .nameAndType 37 38), (0, u "batchWeight"), (0, u "(Lcom/example/graphwarden/graphwarden/partition/OrderedPartition$Vertex;ZI)I"), (0, .class_ 40), (0, u "com/example/graphwarden/graphwarden/chain/ChainPartitionBatchWeightPinLaw"), (2, u "law"), (0, u "(II)Z")] 7

def k1m0 : Method := { name := "<init>", desc := "()V", sig := { parameters := [], returnType := none }, accessFlags := 1, code := none }
def k1c1 : Code := { maxStack := 4, maxLocals := 13, code := code, exceptionTable := #[], attributes := #[] }
def k1m1 : Method := { name := "law", desc := "(II)Z", sig := { parameters := [.int, .int], returnType := some .boolean }, accessFlags := 9, code := some k1c1 }
/-- com/example/graphwarden/graphwarden/chain/ChainPartitionBatchWeightPinLaw -/
def k1 : Class := { plain "com/example/graphwarden/graphwarden/chain/ChainPartitionBatchWeightPinLaw" (some 0) with
  accessFlags := 49
  interfaces := #[]
  cf := some (fileOf pool1 39 #[] #[{ accessFlags := 1, nameIndex := 5, descriptorIndex := 6, attributes := #[] }, { accessFlags := 9, nameIndex := 43, descriptorIndex := 44, attributes := #[] }] 49 2 #[] #[])
  fields := #[]
  methods := #[k1m0, k1m1]
  instanceTypes := #[]
  staticTypes := #[]
  resolved := Array.replicate 52 none
  statics := none }

def pool2 : Array CpInfo := pool [(1, .methodref 2 3), (0, .class_ 4), (0, .nameAndType 5 6), (0, u "java/lang/Object"), (0, u "<init>"), (0, u "()V"), (0, .class_ 8), (0, u "com/example/graphwarden/graphwarden/partition/OrderedPartition$Table"), (0, .methodref 7 3), (0, .fieldref 11 12), (0, .class_ 13), (0, .nameAndType 14 15), (0, u "com/example/graphwarden/graphwarden/partition/OrderedPartition"), (0, u "vertices"), (0, u "Lcom/example/graphwarden/graphwarden/partition/OrderedPartition$Table;"), (0, .fieldref 11 17), (0, .nameAndType 18 15), (0, u "blocks"), (0, .fieldref 11 20), (0, .nameAndType 21 22), (0, u "first"), (0, u "I"), (0, .fieldref 11 24), (0, .nameAndType 25 22), (0, u "last"), (2, u "size"), (16, .class_ 47), (0, .nameAndType 48 49), (0, u "java/util/List"), (0, u "get"), (0, u "(I)Ljava/lang/Object;"), (9, .methodref 7 46), (0, .class_ 61), (0, u "com/example/graphwarden/graphwarden/partition/OrderedPartition$Block"), (0, .methodref 60 63), (0, .nameAndType 5 64), (0, u "(Lcom/example/graphwarden/graphwarden/partition/OrderedPartition;Ljava/lang/Object;)V"), (0, .methodref 7 66), (0, .nameAndType 67 68), (0, u "add"), (0, u "(Ljava/lang/Object;)I"), (0, .fieldref 60 70), (0, .nameAndType 71 22), (0, u "number"), (0, .methodref 11 73), (0, .nameAndType 74 75), (0, u "detachedBlock"), (0, u "(Ljava/lang/Object;)Lcom/example/graphwarden/graphwarden/partition/OrderedPartition$Block;"), (0, .fieldref 60 77), (0, .nameAndType 78 22), (0, u "previous"), (0, .fieldref 60 80), (0, .nameAndType 81 22), (0, u "next"), (2, u "()Lcom/example/graphwarden/graphwarden/partition/OrderedPartition$Block;"), (2, u "insertAfter"), (0, u "(Lcom/example/graphwarden/graphwarden/partition/OrderedPartition$Block;Ljava/lang/Object;)Lcom/example/graphwarden/graphwarden/partition/OrderedPartition$Block;"), (0, .fieldref 60 90), (0, .nameAndType 28 22), (13, .fieldref 60 105), (0, .nameAndType 106 22), (0, u "head"), (3, .methodref 11 111), (0, .nameAndType 112 113), (0, u "move"), (0, u "(Lcom/example/graphwarden/graphwarden/partition/OrderedPartition$Vertex;Lcom/example/graphwarden/graphwarden/partition/OrderedPartition$Block;)V"), (4, .methodref 11 119), (0, .nameAndType 120 121), (0, u "unlinkVertex"), (0, u "(Lcom/example/graphwarden/graphwarden/partition/OrderedPartition$Vertex;)V"), (0, .methodref 11 123), (0, .nameAndType 124 113), (0, u "link"), (0, .fieldref 60 126), (0, .nameAndType 127 128), (0, u "partition"), (0, u "Lcom/example/graphwarden/graphwarden/partition/OrderedPartition;"), (0, .fieldref 130 70), (0, .class_ 131), (0, u "com/example/graphwarden/graphwarden/partition/OrderedPartition$Vertex"), (0, .fieldref 130 126), (0, .fieldref 130 134), (0, .nameAndType 135 22), (0, u "block"), (0, .fieldref 130 77), (0, .fieldref 130 80), (0, .fieldref 130 139), (0, .nameAndType 140 22), (0, u "degree"), (0, .class_ 142), (0, u "java/util/ArrayList"), (0, .methodref 141 3), (0, .interfaceMethodref 45 145), (0, .nameAndType 146 147), (0, u "iterator"), (0, u "()Ljava/util/Iterator;"), (0, .interfaceMethodref 149 150), (0, .class_ 151), (0, .nameAndType 152 153), (0, u "java/util/Iterator"), (0, u "hasNext"), (0, u "()Z"), (0, .interfaceMethodref 149 155), (0, .nameAndType 81 156), (0, u "()Ljava/lang/Object;"), (0, .methodref 11 158), (0, .nameAndType 159 160), (0, u "mark"), (0, u "(Lcom/example/graphwarden/graphwarden/partition/OrderedPartition$Vertex;Ljava/util/List;)V"), (0, .methodref 130 162), (0, .nameAndType 135 84), (0, .fieldref 60 164), (0, .nameAndType 165 22), (0, u "marked"), (0, .interfaceMethodref 45 167), (0, .nameAndType 67 168), (0, u "(Ljava/lang/Object;)Z"), (2, u "NONE"), (45, u "changeDegree"), (0, u "(Lcom/example/graphwarden/graphwarden/partition/OrderedPartition$Vertex;I)V"), (1, u "(Ljava/util/List;)Ljava/util/List;"), (2, u "unmark"), (0, u "(Ljava/util/List;)V")] 29

def k2c0 : Code := { maxStack := 3, maxLocals := 1, code := prog_26_method_1_code, exceptionTable := #[], attributes := #[] }
def k2m0 : Method := { name := "<init>", desc := "()V", sig := { parameters := [], returnType := none }, accessFlags := 4, code := some k2c0 }
def k2c1 : Code := { maxStack := 2, maxLocals := 1, code := prog_26_method_13_code, exceptionTable := #[], attributes := #[] }
def k2m1 : Method := { name := "first", desc := "()Lcom/example/graphwarden/graphwarden/partition/OrderedPartition$Block;", sig := { parameters := [], returnType := some (.object "com/example/graphwarden/graphwarden/partition/OrderedPartition$Block") }, accessFlags := 20, code := some k2c1 }
def k2c2 : Code := { maxStack := 2, maxLocals := 1, code := prog_26_method_14_code, exceptionTable := #[], attributes := #[] }
def k2m2 : Method := { name := "last", desc := "()Lcom/example/graphwarden/graphwarden/partition/OrderedPartition$Block;", sig := { parameters := [], returnType := some (.object "com/example/graphwarden/graphwarden/partition/OrderedPartition$Block") }, accessFlags := 20, code := some k2c2 }
def k2c3 : Code := { maxStack := 4, maxLocals := 3, code := prog_26_method_15_code, exceptionTable := #[], attributes := #[] }
def k2m3 : Method := { name := "detachedBlock", desc := "(Ljava/lang/Object;)Lcom/example/graphwarden/graphwarden/partition/OrderedPartition$Block;", sig := { parameters := [(.object "java/lang/Object")], returnType := some (.object "com/example/graphwarden/graphwarden/partition/OrderedPartition$Block") }, accessFlags := 20, code := some k2c3 }
def k2c4 : Code := { maxStack := 2, maxLocals := 4, code := prog_26_method_16_code, exceptionTable := #[], attributes := #[] }
def k2m4 : Method := { name := "insertAfter", desc := "(Lcom/example/graphwarden/graphwarden/partition/OrderedPartition$Block;Ljava/lang/Object;)Lcom/example/graphwarden/graphwarden/partition/OrderedPartition$Block;", sig := { parameters := [(.object "com/example/graphwarden/graphwarden/partition/OrderedPartition$Block"), (.object "java/lang/Object")], returnType := some (.object "com/example/graphwarden/graphwarden/partition/OrderedPartition$Block") }, accessFlags := 20, code := some k2c4 }
def k2c5 : Code := { maxStack := 2, maxLocals := 2, code := prog_26_method_20_code, exceptionTable := #[], attributes := #[] }
def k2m5 : Method := { name := "move", desc := "(Lcom/example/graphwarden/graphwarden/partition/OrderedPartition$Vertex;Lcom/example/graphwarden/graphwarden/partition/OrderedPartition$Block;)V", sig := { parameters := [(.object "com/example/graphwarden/graphwarden/partition/OrderedPartition$Vertex"), (.object "com/example/graphwarden/graphwarden/partition/OrderedPartition$Block")], returnType := none }, accessFlags := 12, code := some k2c5 }
def k2c6 : Code := { maxStack := 3, maxLocals := 3, code := prog_26_method_21_code, exceptionTable := #[], attributes := #[] }
def k2m6 : Method := { name := "link", desc := "(Lcom/example/graphwarden/graphwarden/partition/OrderedPartition$Vertex;Lcom/example/graphwarden/graphwarden/partition/OrderedPartition$Block;)V", sig := { parameters := [(.object "com/example/graphwarden/graphwarden/partition/OrderedPartition$Vertex"), (.object "com/example/graphwarden/graphwarden/partition/OrderedPartition$Block")], returnType := none }, accessFlags := 12, code := some k2c6 }
def k2c7 : Code := { maxStack := 3, maxLocals := 2, code := prog_26_method_22_code, exceptionTable := #[], attributes := #[] }
def k2m7 : Method := { name := "unlinkVertex", desc := "(Lcom/example/graphwarden/graphwarden/partition/OrderedPartition$Vertex;)V", sig := { parameters := [(.object "com/example/graphwarden/graphwarden/partition/OrderedPartition$Vertex")], returnType := none }, accessFlags := 12, code := some k2c7 }
def k2c8 : Code := { maxStack := 3, maxLocals := 2, code := prog_26_method_24_code, exceptionTable := #[], attributes := #[] }
def k2m8 : Method := { name := "changeDegree", desc := "(Lcom/example/graphwarden/graphwarden/partition/OrderedPartition$Vertex;I)V", sig := { parameters := [(.object "com/example/graphwarden/graphwarden/partition/OrderedPartition$Vertex"), .int], returnType := none }, accessFlags := 12, code := some k2c8 }
def k2c9 : Code := { maxStack := 2, maxLocals := 4, code := prog_26_method_25_code, exceptionTable := #[], attributes := #[] }
def k2m9 : Method := { name := "mark", desc := "(Ljava/util/List;)Ljava/util/List;", sig := { parameters := [(.object "java/util/List")], returnType := some (.object "java/util/List") }, accessFlags := 12, code := some k2c9 }
def k2c10 : Code := { maxStack := 3, maxLocals := 3, code := prog_26_method_26_code, exceptionTable := #[], attributes := #[] }
def k2m10 : Method := { name := "mark", desc := "(Lcom/example/graphwarden/graphwarden/partition/OrderedPartition$Vertex;Ljava/util/List;)V", sig := { parameters := [(.object "com/example/graphwarden/graphwarden/partition/OrderedPartition$Vertex"), (.object "java/util/List")], returnType := none }, accessFlags := 12, code := some k2c10 }
def k2c11 : Code := { maxStack := 2, maxLocals := 3, code := prog_26_method_27_code, exceptionTable := #[], attributes := #[] }
def k2m11 : Method := { name := "unmark", desc := "(Ljava/util/List;)V", sig := { parameters := [(.object "java/util/List")], returnType := none }, accessFlags := 12, code := some k2c11 }
/-- com/example/graphwarden/graphwarden/partition/OrderedPartition -/
def k2 : Class := { plain "com/example/graphwarden/graphwarden/partition/OrderedPartition" (some 0) with
  accessFlags := 1057
  interfaces := #[]
  cf := some (fileOf pool2 11 #[.nestMembers #[7, 60, 130]] #[{ accessFlags := 4, nameIndex := 5, descriptorIndex := 6, attributes := #[] }, { accessFlags := 20, nameIndex := 21, descriptorIndex := 84, attributes := #[] }, { accessFlags := 20, nameIndex := 25, descriptorIndex := 84, attributes := #[] }, { accessFlags := 20, nameIndex := 74, descriptorIndex := 75, attributes := #[] }, { accessFlags := 20, nameIndex := 87, descriptorIndex := 88, attributes := #[] }, { accessFlags := 12, nameIndex := 112, descriptorIndex := 113, attributes := #[] }, { accessFlags := 12, nameIndex := 124, descriptorIndex := 113, attributes := #[] }, { accessFlags := 12, nameIndex := 120, descriptorIndex := 121, attributes := #[] }, { accessFlags := 12, nameIndex := 217, descriptorIndex := 218, attributes := #[] }, { accessFlags := 12, nameIndex := 159, descriptorIndex := 220, attributes := #[] }, { accessFlags := 12, nameIndex := 159, descriptorIndex := 160, attributes := #[] }, { accessFlags := 12, nameIndex := 223, descriptorIndex := 224, attributes := #[] }] 1057 2 #[] #[{ accessFlags := 26, nameIndex := 171, descriptorIndex := 22, attributes := #[] }, { accessFlags := 18, nameIndex := 14, descriptorIndex := 15, attributes := #[] }, { accessFlags := 18, nameIndex := 18, descriptorIndex := 15, attributes := #[] }, { accessFlags := 2, nameIndex := 21, descriptorIndex := 22, attributes := #[] }, { accessFlags := 2, nameIndex := 25, descriptorIndex := 22, attributes := #[] }])
  fields := #[{ name := "NONE", type := .int, accessFlags := 26, slot := 0, constantValue := 0 }, { name := "vertices", type := (.object "com/example/graphwarden/graphwarden/partition/OrderedPartition$Table"), accessFlags := 18, slot := 0, constantValue := 0 }, { name := "blocks", type := (.object "com/example/graphwarden/graphwarden/partition/OrderedPartition$Table"), accessFlags := 18, slot := 1, constantValue := 0 }, { name := "first", type := .int, accessFlags := 2, slot := 2, constantValue := 0 }, { name := "last", type := .int, accessFlags := 2, slot := 3, constantValue := 0 }]
  methods := #[k2m0, k2m1, k2m2, k2m3, k2m4, k2m5, k2m6, k2m7, k2m8, k2m9, k2m10, k2m11]
  instanceTypes := #[(.object "com/example/graphwarden/graphwarden/partition/OrderedPartition$Table"), (.object "com/example/graphwarden/graphwarden/partition/OrderedPartition$Table"), .int, .int]
  staticTypes := #[.int]
  resolved := (((((((((((((((((Array.replicate 254 none).setIfInBounds 7 (some (.cls 4))).setIfInBounds 9 (some (.method ⟨4, 0⟩))).setIfInBounds 60 (some (.cls 19))).setIfInBounds 62 (some (.method ⟨19, 0⟩))).setIfInBounds 69 (some (.field 19 2))).setIfInBounds 76 (some (.field 19 6))).setIfInBounds 79 (some (.field 19 7))).setIfInBounds 89 (some (.field 19 3))).setIfInBounds 104 (some (.field 19 5))).setIfInBounds 125 (some (.field 19 0))).setIfInBounds 129 (some (.field 21 2))).setIfInBounds 132 (some (.field 21 1))).setIfInBounds 133 (some (.field 21 4))).setIfInBounds 136 (some (.field 21 5))).setIfInBounds 137 (some (.field 21 6))).setIfInBounds 138 (some (.field 21 3))).setIfInBounds 163 (some (.field 19 4))
  statics := none }

def pool3 : Array CpInfo := pool [(1, .methodref 2 3), (0, .class_ 4), (0, .nameAndType 5 6), (0, u "com/example/graphwarden/graphwarden/partition/OrderedPartition"), (0, u "<init>"), (0, u "()V"), (0, .fieldref 8 9), (0, .class_ 10), (0, .nameAndType 11 12), (0, u "com/example/graphwarden/graphwarden/chain/ChainPartition$Kind"), (0, u "ISOLATED"), (0, u "Lcom/example/graphwarden/graphwarden/chain/ChainPartition$Kind;"), (0, .methodref 14 15), (0, .class_ 16), (0, .nameAndType 17 18), (0, u "com/example/graphwarden/graphwarden/chain/ChainPartition"), (0, u "detachedBlock"), (0, u "(Ljava/lang/Object;)Lcom/example/graphwarden/graphwarden/partition/OrderedPartition$Block;"), (0, .fieldref 14 20), (0, .nameAndType 21 22), (0, u "isolated"), (0, u "Lcom/example/graphwarden/graphwarden/partition/OrderedPartition$Block;"), (0, .interfaceMethodref 24 25), (0, .class_ 26), (0, .nameAndType 27 28), (0, u "java/util/List"), (0, u "isEmpty"), (0, u "()Z"), (0, .methodref 14 30), (0, .nameAndType 31 32), (0, u "link"), (0, u "(Lcom/example/graphwarden/graphwarden/partition/OrderedPartition$Vertex;Lcom/example/graphwarden/graphwarden/partition/OrderedPartition$Block;)V"), (0, .methodref 34 35), (0, .class_ 36), (0, .nameAndType 37 38), (0, u "com/example/graphwarden/graphwarden/Outcome"), (0, u "applied"), (0, u "()Lcom/example/graphwarden/graphwarden/Outcome;"), (0, .methodref 14 40), (0, .nameAndType 41 42), (0, u "mark"), (0, u "(Ljava/util/List;)Ljava/util/List;"), (0, .methodref 14 44), (0, .nameAndType 45 46), (0, u "insert"), (0, u "(Lcom/example/graphwarden/graphwarden/partition/OrderedPartition$Vertex;Ljava/util/List;)Lcom/example/graphwarden/graphwarden/Outcome;"), (0, .methodref 34 48), (0, .nameAndType 49 50), (0, u "kind"), (0, u "()Lcom/example/graphwarden/graphwarden/Outcome$Kind;"), (0, .fieldref 52 53), (0, .class_ 54), (0, .nameAndType 55 56), (0, u "com/example/graphwarden/graphwarden/Outcome$Kind"), (0, u "APPLIED"), (0, u "Lcom/example/graphwarden/graphwarden/Outcome$Kind;"), (0, .interfaceMethodref 24 58), (0, .nameAndType 59 60), (0, u "size"), (0, u "()I"), (0, .methodref 14 62), (0, .nameAndType 63 64), (0, u "changeDegree"), (0, u "(Lcom/example/graphwarden/graphwarden/partition/OrderedPartition$Vertex;I)V"), (0, .interfaceMethodref 24 66), (0, .nameAndType 67 68), (0, u "iterator"), (0, u "()Ljava/util/Iterator;"), (0, .interfaceMethodref 70 71), (0, .class_ 72), (0, .nameAndType 73 28), (0, u "java/util/Iterator"), (0, u "hasNext"), (0, .interfaceMethodref 70 75), (0, .nameAndType 76 77), (0, u "next"), (0, u "()Ljava/lang/Object;"), (0, .class_ 79), (0, u "com/example/graphwarden/graphwarden/partition/OrderedPartition$Vertex"), (0, .methodref 14 81), (0, .nameAndType 82 83), (0, u "unmark"), (0, u "(Ljava/util/List;)V"), (3, u "()Lcom/example/graphwarden/graphwarden/partition/OrderedPartition$Block;"), (16, .methodref 105 106), (0, .class_ 107), (0, .nameAndType 49 77), (0, u "com/example/graphwarden/graphwarden/partition/OrderedPartition$Block"), (0, .fieldref 8 109), (0, .nameAndType 110 12), (0, u "A"), (0, .methodref 105 112), (0, .nameAndType 76 87), (1, .nameAndType 115 60), (0, u "degree"), (0, .methodref 14 117), (0, .nameAndType 118 87), (0, u "first"), (0, .fieldref 8 120), (0, .nameAndType 121 12), (0, u "B"), (0, .methodref 105 123), (0, .nameAndType 124 125), (0, u "head"), (0, u "()Lcom/example/graphwarden/graphwarden/partition/OrderedPartition$Vertex;"), (17, .methodref 14 144), (0, .nameAndType 145 87), (0, u "last"), (14, .methodref 14 161), (0, .nameAndType 162 163), (0, u "insertAfter"), (0, u "(Lcom/example/graphwarden/graphwarden/partition/OrderedPartition$Block;Ljava/lang/Object;)Lcom/example/graphwarden/graphwarden/partition/OrderedPartition$Block;"), (0, .methodref 14 165), (0, .nameAndType 166 32), (0, u "move"), (14, .methodref 78 114), (4, .methodref 105 187), (0, .nameAndType 188 60), (0, u "marked"), (4, .methodref 14 194), (0, .nameAndType 195 196), (0, u "insertFacing"), (0, u "(Lcom/example/graphwarden/graphwarden/partition/OrderedPartition$Vertex;Lcom/example/graphwarden/graphwarden/chain/ChainPartition$Kind;Ljava/util/List;)Lcom/example/graphwarden/graphwarden/Outcome;"), (0, .methodref 105 198), (0, .nameAndType 199 28), (0, u "full"), (0, .methodref 14 201), (0, .nameAndType 202 203), (0, u "further"), (0, u "(Lcom/example/graphwarden/graphwarden/partition/OrderedPartition$Block;)Lcom/example/graphwarden/graphwarden/partition/OrderedPartition$Block;"), (0, .methodref 14 205), (0, .nameAndType 206 207), (0, u "placeBeyond"), (0, u "(Lcom/example/graphwarden/graphwarden/partition/OrderedPartition$Vertex;Lcom/example/graphwarden/graphwarden/chain/ChainPartition$Kind;)V"), (4, .methodref 14 213), (0, .nameAndType 214 203), (0, u "partner"), (0, .methodref 14 216), (0, .nameAndType 217 32), (0, u "place"), (34, u "addVertex"), (15, u "batchWeight"), (0, u "(Lcom/example/graphwarden/graphwarden/partition/OrderedPartition$Vertex;ZI)I")] 44

def k3c0 : Code := { maxStack := 3, maxLocals := 1, code := prog_13_method_1_code, exceptionTable := #[], attributes := #[] }
def k3m0 : Method := { name := "<init>", desc := "()V", sig := { parameters := [], returnType := none }, accessFlags := 0, code := some k3c0 }
def k3c1 : Code := { maxStack := 3, maxLocals := 8, code := prog_13_method_2_code, exceptionTable := #[{ startPc := 26, endPc := 98, handlerPc := 105, catchType := 0 }, { startPc := 105, endPc := 107, handlerPc := 105, catchType := 0 }], attributes := #[] }
def k3m1 : Method := { name := "addVertex", desc := "(Lcom/example/graphwarden/graphwarden/partition/OrderedPartition$Vertex;Ljava/util/List;)Lcom/example/graphwarden/graphwarden/Outcome;", sig := { parameters := [(.object "com/example/graphwarden/graphwarden/partition/OrderedPartition$Vertex"), (.object "java/util/List")], returnType := some (.object "com/example/graphwarden/graphwarden/Outcome") }, accessFlags := 4, code := some k3c1 }
def k3c2 : Code := { maxStack := 2, maxLocals := 4, code := prog_13_method_9_code, exceptionTable := #[], attributes := #[] }
def k3m2 : Method := { name := "batchWeight", desc := "(Lcom/example/graphwarden/graphwarden/partition/OrderedPartition$Vertex;ZI)I", sig := { parameters := [(.object "com/example/graphwarden/graphwarden/partition/OrderedPartition$Vertex"), .boolean, .int], returnType := some .int }, accessFlags := 4, code := some k3c2 }
def k3c3 : Code := { maxStack := 5, maxLocals := 7, code := prog_13_method_13_code, exceptionTable := #[], attributes := #[] }
def k3m3 : Method := { name := "insert", desc := "(Lcom/example/graphwarden/graphwarden/partition/OrderedPartition$Vertex;Ljava/util/List;)Lcom/example/graphwarden/graphwarden/Outcome;", sig := { parameters := [(.object "com/example/graphwarden/graphwarden/partition/OrderedPartition$Vertex"), (.object "java/util/List")], returnType := some (.object "com/example/graphwarden/graphwarden/Outcome") }, accessFlags := 2, code := some k3c3 }
def k3c4 : Code := { maxStack := 5, maxLocals := 11, code := prog_13_method_14_code, exceptionTable := #[], attributes := #[] }
def k3m4 : Method := { name := "insertFacing", desc := "(Lcom/example/graphwarden/graphwarden/partition/OrderedPartition$Vertex;Lcom/example/graphwarden/graphwarden/chain/ChainPartition$Kind;Ljava/util/List;)Lcom/example/graphwarden/graphwarden/Outcome;", sig := { parameters := [(.object "com/example/graphwarden/graphwarden/partition/OrderedPartition$Vertex"), (.object "com/example/graphwarden/graphwarden/chain/ChainPartition$Kind"), (.object "java/util/List")], returnType := some (.object "com/example/graphwarden/graphwarden/Outcome") }, accessFlags := 2, code := some k3c4 }
def k3c5 : Code := { maxStack := 3, maxLocals := 7, code := prog_13_method_15_code, exceptionTable := #[], attributes := #[] }
def k3m5 : Method := { name := "place", desc := "(Lcom/example/graphwarden/graphwarden/partition/OrderedPartition$Vertex;Lcom/example/graphwarden/graphwarden/partition/OrderedPartition$Block;)V", sig := { parameters := [(.object "com/example/graphwarden/graphwarden/partition/OrderedPartition$Vertex"), (.object "com/example/graphwarden/graphwarden/partition/OrderedPartition$Block")], returnType := none }, accessFlags := 2, code := some k3c5 }
def k3c6 : Code := { maxStack := 3, maxLocals := 6, code := prog_13_method_16_code, exceptionTable := #[], attributes := #[] }
def k3m6 : Method := { name := "placeBeyond", desc := "(Lcom/example/graphwarden/graphwarden/partition/OrderedPartition$Vertex;Lcom/example/graphwarden/graphwarden/chain/ChainPartition$Kind;)V", sig := { parameters := [(.object "com/example/graphwarden/graphwarden/partition/OrderedPartition$Vertex"), (.object "com/example/graphwarden/graphwarden/chain/ChainPartition$Kind")], returnType := none }, accessFlags := 2, code := some k3c6 }
def k3c7 : Code := { maxStack := 2, maxLocals := 1, code := prog_13_method_17_code, exceptionTable := #[], attributes := #[] }
def k3m7 : Method := { name := "further", desc := "(Lcom/example/graphwarden/graphwarden/partition/OrderedPartition$Block;)Lcom/example/graphwarden/graphwarden/partition/OrderedPartition$Block;", sig := { parameters := [(.object "com/example/graphwarden/graphwarden/partition/OrderedPartition$Block")], returnType := some (.object "com/example/graphwarden/graphwarden/partition/OrderedPartition$Block") }, accessFlags := 10, code := some k3c7 }
def k3c8 : Code := { maxStack := 2, maxLocals := 1, code := prog_13_method_18_code, exceptionTable := #[], attributes := #[] }
def k3m8 : Method := { name := "partner", desc := "(Lcom/example/graphwarden/graphwarden/partition/OrderedPartition$Block;)Lcom/example/graphwarden/graphwarden/partition/OrderedPartition$Block;", sig := { parameters := [(.object "com/example/graphwarden/graphwarden/partition/OrderedPartition$Block")], returnType := some (.object "com/example/graphwarden/graphwarden/partition/OrderedPartition$Block") }, accessFlags := 10, code := some k3c8 }
/-- com/example/graphwarden/graphwarden/chain/ChainPartition -/
def k3 : Class := { plain "com/example/graphwarden/graphwarden/chain/ChainPartition" (some 2) with
  accessFlags := 48
  interfaces := #[]
  cf := some (fileOf pool3 14 #[.nestMembers #[8]] #[{ accessFlags := 0, nameIndex := 5, descriptorIndex := 6, attributes := #[] }, { accessFlags := 4, nameIndex := 252, descriptorIndex := 46, attributes := #[] }, { accessFlags := 4, nameIndex := 268, descriptorIndex := 269, attributes := #[] }, { accessFlags := 2, nameIndex := 45, descriptorIndex := 46, attributes := #[] }, { accessFlags := 2, nameIndex := 195, descriptorIndex := 196, attributes := #[] }, { accessFlags := 2, nameIndex := 217, descriptorIndex := 32, attributes := #[] }, { accessFlags := 2, nameIndex := 206, descriptorIndex := 207, attributes := #[] }, { accessFlags := 10, nameIndex := 202, descriptorIndex := 203, attributes := #[] }, { accessFlags := 10, nameIndex := 214, descriptorIndex := 203, attributes := #[] }] 48 2 #[] #[{ accessFlags := 18, nameIndex := 21, descriptorIndex := 22, attributes := #[] }])
  fields := #[{ name := "isolated", type := (.object "com/example/graphwarden/graphwarden/partition/OrderedPartition$Block"), accessFlags := 18, slot := 4, constantValue := 0 }]
  methods := #[k3m0, k3m1, k3m2, k3m3, k3m4, k3m5, k3m6, k3m7, k3m8]
  instanceTypes := #[(.object "com/example/graphwarden/graphwarden/partition/OrderedPartition$Table"), (.object "com/example/graphwarden/graphwarden/partition/OrderedPartition$Table"), .int, .int, (.object "com/example/graphwarden/graphwarden/partition/OrderedPartition$Block")]
  staticTypes := #[]
  resolved := Array.replicate 314 none
  statics := none }

def pool4 : Array CpInfo := pool [(1, .class_ 2), (0, u "com/example/graphwarden/graphwarden/partition/OrderedPartition"), (0, .methodref 4 5), (0, .class_ 6), (0, .nameAndType 7 8), (0, u "java/lang/Object"), (0, u "<init>"), (0, u "()V"), (0, .class_ 10), (0, u "java/util/ArrayList"), (0, .methodref 9 5), (0, .fieldref 13 14), (0, .class_ 15), (0, .nameAndType 16 17), (0, u "com/example/graphwarden/graphwarden/partition/OrderedPartition$Table"), (0, u "objects"), (0, u "Ljava/util/List;"), (0, .fieldref 13 19), (0, .nameAndType 20 21), (0, u "free"), (0, u "[I"), (0, .fieldref 13 23), (0, .nameAndType 24 25), (0, u "freeCount"), (0, u "I"), (0, .interfaceMethodref 27 28), (0, .class_ 29), (0, .nameAndType 30 31), (0, u "java/util/List"), (0, u "add"), (0, u "(Ljava/lang/Object;)Z"), (0, .interfaceMethodref 27 33), (0, .nameAndType 34 35), (0, u "size"), (0, u "()I"), (4, .interfaceMethodref 27 41), (0, .nameAndType 42 43), (0, u "get"), (0, u "(I)Ljava/lang/Object;"), (16, u "(Ljava/lang/Object;)I")] 11

def k4c0 : Code := { maxStack := 3, maxLocals := 1, code := prog_28_method_1_code, exceptionTable := #[], attributes := #[] }
def k4m0 : Method := { name := "<init>", desc := "()V", sig := { parameters := [], returnType := none }, accessFlags := 2, code := some k4c0 }
def k4c1 : Code := { maxStack := 4, maxLocals := 3, code := prog_28_method_2_code, exceptionTable := #[], attributes := #[] }
def k4m1 : Method := { name := "add", desc := "(Ljava/lang/Object;)I", sig := { parameters := [(.object "java/lang/Object")], returnType := some .int }, accessFlags := 0, code := some k4c1 }
def k4c2 : Code := { maxStack := 2, maxLocals := 2, code := prog_28_method_3_code, exceptionTable := #[], attributes := #[] }
def k4m2 : Method := { name := "get", desc := "(I)Ljava/lang/Object;", sig := { parameters := [.int], returnType := some (.object "java/lang/Object") }, accessFlags := 0, code := some k4c2 }
/-- com/example/graphwarden/graphwarden/partition/OrderedPartition$Table -/
def k4 : Class := { plain "com/example/graphwarden/graphwarden/partition/OrderedPartition$Table" (some 0) with
  accessFlags := 48
  interfaces := #[]
  cf := some (fileOf pool4 13 #[.nestHost 1] #[{ accessFlags := 2, nameIndex := 7, descriptorIndex := 8, attributes := #[] }, { accessFlags := 0, nameIndex := 30, descriptorIndex := 60, attributes := #[] }, { accessFlags := 0, nameIndex := 42, descriptorIndex := 43, attributes := #[] }] 48 4 #[] #[{ accessFlags := 18, nameIndex := 16, descriptorIndex := 17, attributes := #[] }, { accessFlags := 2, nameIndex := 20, descriptorIndex := 21, attributes := #[] }, { accessFlags := 2, nameIndex := 24, descriptorIndex := 25, attributes := #[] }])
  fields := #[{ name := "objects", type := (.object "java/util/List"), accessFlags := 18, slot := 0, constantValue := 0 }, { name := "free", type := (.array .int), accessFlags := 2, slot := 1, constantValue := 0 }, { name := "freeCount", type := .int, accessFlags := 2, slot := 2, constantValue := 0 }]
  methods := #[k4m0, k4m1, k4m2]
  instanceTypes := #[(.object "java/util/List"), (.array .int), .int]
  staticTypes := #[]
  resolved := Array.replicate 72 none
  statics := none }

def pool5 : Array CpInfo := pool [(8, .class_ 10), (1, u "java/lang/Iterable"), (24, .class_ 36), (0, u "java/lang/Object")] 25

/-- java/lang/Iterable -/
def k5 : Class := { plain "java/lang/Iterable" (some 0) with
  accessFlags := 1537
  interfaces := #[]
  cf := some (fileOf pool5 8 #[] #[] 1537 35 #[] #[])
  fields := #[]
  methods := #[]
  instanceTypes := #[]
  staticTypes := #[]
  resolved := Array.replicate 62 none
  statics := none }

def pool6 : Array CpInfo := pool [(10, .class_ 12), (1, u "java/util/Collection"), (47, .class_ 61), (0, u "java/lang/Object"), (0, .class_ 63), (0, u "java/lang/Iterable")] 51

/-- java/util/Collection -/
def k6 : Class := { plain "java/util/Collection" (some 0) with
  accessFlags := 1537
  interfaces := #[5]
  cf := some (fileOf pool6 10 #[] #[] 1537 60 #[62] #[])
  fields := #[]
  methods := #[]
  instanceTypes := #[]
  staticTypes := #[]
  resolved := Array.replicate 115 none
  statics := none }

def pool7 : Array CpInfo := pool [(1, .methodref 2 3), (0, .class_ 4), (0, .nameAndType 5 6), (0, u "java/lang/Object"), (0, u "<init>"), (0, u "()V"), (1, .class_ 10), (1, u "java/util/AbstractCollection"), (66, .class_ 78), (0, u "java/util/Collection")] 81

def k7c0 : Code := { maxStack := 1, maxLocals := 1, code := jdk_22_method_1_code, exceptionTable := #[], attributes := #[] }
def k7m0 : Method := { name := "<init>", desc := "()V", sig := { parameters := [], returnType := none }, accessFlags := 4, code := some k7c0 }
/-- java/util/AbstractCollection -/
def k7 : Class := { plain "java/util/AbstractCollection" (some 0) with
  accessFlags := 1057
  interfaces := #[6]
  cf := some (fileOf pool7 8 #[] #[{ accessFlags := 4, nameIndex := 5, descriptorIndex := 6, attributes := #[] }] 1057 2 #[77] #[])
  fields := #[]
  methods := #[k7m0]
  instanceTypes := #[]
  staticTypes := #[]
  resolved := Array.replicate 160 none
  statics := none }

def pool8 : Array CpInfo := pool [(8, .class_ 10), (1, u "java/util/SequencedCollection"), (15, .class_ 27), (0, u "java/lang/Object"), (0, .class_ 29), (0, u "java/util/Collection")] 27

/-- java/util/SequencedCollection -/
def k8 : Class := { plain "java/util/SequencedCollection" (some 0) with
  accessFlags := 1537
  interfaces := #[6]
  cf := some (fileOf pool8 8 #[] #[] 1537 26 #[28] #[])
  fields := #[]
  methods := #[]
  instanceTypes := #[]
  staticTypes := #[]
  resolved := Array.replicate 57 none
  statics := none }

def pool9 : Array CpInfo := pool [(8, .class_ 10), (1, u "java/util/List"), (7, u "()Z"), (41, u "add"), (3, u "(Ljava/lang/Object;)Z"), (2, u "isEmpty"), (7, u "get"), (0, u "(I)Ljava/lang/Object;"), (2, u "size"), (0, u "()I"), (22, .class_ 104), (0, u "java/lang/Object"), (15, .class_ 121), (0, u "java/util/SequencedCollection"), (1, u "iterator"), (0, u "()Ljava/util/Iterator;")] 126

def k9m0 : Method := { name := "size", desc := "()I", sig := { parameters := [], returnType := some .int }, accessFlags := 1025, code := none }
def k9m1 : Method := { name := "isEmpty", desc := "()Z", sig := { parameters := [], returnType := some .boolean }, accessFlags := 1025, code := none }
def k9m2 : Method := { name := "iterator", desc := "()Ljava/util/Iterator;", sig := { parameters := [], returnType := some (.object "java/util/Iterator") }, accessFlags := 1025, code := none }
def k9m3 : Method := { name := "add", desc := "(Ljava/lang/Object;)Z", sig := { parameters := [(.object "java/lang/Object")], returnType := some .boolean }, accessFlags := 1025, code := none }
def k9m4 : Method := { name := "get", desc := "(I)Ljava/lang/Object;", sig := { parameters := [.int], returnType := some (.object "java/lang/Object") }, accessFlags := 1025, code := none }
/-- java/util/List -/
def k9 : Class := { plain "java/util/List" (some 0) with
  accessFlags := 1537
  interfaces := #[8]
  cf := some (fileOf pool9 8 #[] #[{ accessFlags := 1025, nameIndex := 79, descriptorIndex := 80, attributes := #[] }, { accessFlags := 1025, nameIndex := 67, descriptorIndex := 18, attributes := #[] }, { accessFlags := 1025, nameIndex := 123, descriptorIndex := 124, attributes := #[] }, { accessFlags := 1025, nameIndex := 60, descriptorIndex := 64, attributes := #[] }, { accessFlags := 1025, nameIndex := 75, descriptorIndex := 76, attributes := #[] }] 1537 103 #[120] #[])
  fields := #[]
  methods := #[k9m0, k9m1, k9m2, k9m3, k9m4]
  instanceTypes := #[]
  staticTypes := #[]
  resolved := Array.replicate 251 none
  statics := none }

def pool10 : Array CpInfo := pool [(1, .methodref 2 3), (0, .class_ 4), (0, .nameAndType 5 6), (0, u "java/util/AbstractCollection"), (0, u "<init>"), (0, u "()V"), (0, .fieldref 8 9), (0, .class_ 10), (0, .nameAndType 11 12), (0, u "java/util/AbstractList"), (0, u "modCount"), (0, u "I"), (64, .class_ 78), (0, u "java/util/AbstractList$Itr"), (3, .class_ 83), (0, u "java/util/AbstractList$ListItr"), (9, .class_ 94), (0, u "java/util/AbstractList$RandomAccessSubList"), (3, .class_ 99), (0, u "java/util/AbstractList$SubList"), (33, .class_ 134), (0, u "java/util/List"), (73, .class_ 209), (0, u "java/util/AbstractList$SubList$1"), (0, .class_ 211), (0, u "java/util/AbstractList$RandomAccessSpliterator")] 6

def k10c0 : Code := { maxStack := 2, maxLocals := 1, code := jdk_39_method_1_code, exceptionTable := #[], attributes := #[] }
def k10m0 : Method := { name := "<init>", desc := "()V", sig := { parameters := [], returnType := none }, accessFlags := 4, code := some k10c0 }
/-- java/util/AbstractList -/
def k10 : Class := { plain "java/util/AbstractList" (some 7) with
  accessFlags := 1057
  interfaces := #[9]
  cf := some (fileOf pool10 8 #[.nestMembers #[93, 98, 208, 210, 82, 77]] #[{ accessFlags := 4, nameIndex := 5, descriptorIndex := 6, attributes := #[] }] 1057 2 #[133] #[{ accessFlags := 132, nameIndex := 11, descriptorIndex := 12, attributes := #[] }])
  fields := #[{ name := "modCount", type := .int, accessFlags := 132, slot := 0, constantValue := 0 }]
  methods := #[k10m0]
  instanceTypes := #[.int]
  staticTypes := #[]
  resolved := Array.replicate 218 none
  statics := none }

def pool11 : Array CpInfo := pool [(1, .class_ 2), (0, u "java/util/RandomAccess"), (0, .class_ 4), (0, u "java/lang/Object")] 2

/-- java/util/RandomAccess -/
def k11 : Class := { plain "java/util/RandomAccess" (some 0) with
  accessFlags := 1537
  interfaces := #[]
  cf := some (fileOf pool11 1 #[] #[] 1537 3 #[] #[])
  fields := #[]
  methods := #[]
  instanceTypes := #[]
  staticTypes := #[]
  resolved := Array.replicate 7 none
  statics := none }

def pool12 : Array CpInfo := pool [(1, .class_ 2), (0, u "java/lang/Cloneable"), (0, .class_ 4), (0, u "java/lang/Object")] 2

/-- java/lang/Cloneable -/
def k12 : Class := { plain "java/lang/Cloneable" (some 0) with
  accessFlags := 1537
  interfaces := #[]
  cf := some (fileOf pool12 1 #[] #[] 1537 3 #[] #[])
  fields := #[]
  methods := #[]
  instanceTypes := #[]
  staticTypes := #[]
  resolved := Array.replicate 7 none
  statics := none }

def pool13 : Array CpInfo := pool [(1, .class_ 2), (0, u "java/io/Serializable"), (0, .class_ 4), (0, u "java/lang/Object")] 2

/-- java/io/Serializable -/
def k13 : Class := { plain "java/io/Serializable" (some 0) with
  accessFlags := 1537
  interfaces := #[]
  cf := some (fileOf pool13 1 #[] #[] 1537 3 #[] #[])
  fields := #[]
  methods := #[]
  instanceTypes := #[]
  staticTypes := #[]
  resolved := Array.replicate 7 none
  statics := none }

def pool14 : Array CpInfo := pool [(1, .methodref 2 3), (0, .class_ 4), (0, .nameAndType 5 6), (0, u "java/util/AbstractList"), (0, u "<init>"), (0, u "()V"), (0, .class_ 8), (0, u "java/lang/Object"), (0, .fieldref 10 11), (0, .class_ 12), (0, .nameAndType 13 14), (0, u "java/util/ArrayList"), (0, u "elementData"), (0, u "[Ljava/lang/Object;"), (2, u "EMPTY_ELEMENTDATA"), (21, .fieldref 10 40), (0, .nameAndType 41 14), (0, u "DEFAULTCAPACITY_EMPTY_ELEMENTDATA"), (5, u "()[Ljava/lang/Object;"), (0, .fieldref 10 49), (0, .nameAndType 50 51), (0, u "size"), (0, u "I"), (11, .fieldref 10 64), (0, .nameAndType 65 51), (0, u "modCount"), (3, .methodref 10 70), (0, .nameAndType 71 72), (0, u "grow"), (0, u "(I)[Ljava/lang/Object;"), (6, .methodref 80 81), (0, .class_ 82), (0, .nameAndType 83 84), (0, u "java/lang/Math"), (0, u "max"), (0, u "(II)I"), (11, u "(Ljava/lang/Object;)Z"), (21, .methodref 119 120), (0, .class_ 121), (0, .nameAndType 122 84), (0, u "java/util/Objects"), (0, u "checkIndex"), (0, .methodref 10 124), (0, .nameAndType 13 125), (0, u "(I)Ljava/lang/Object;"), (3, .methodref 10 130), (0, .nameAndType 71 47), (0, .methodref 10 132), (0, .nameAndType 133 134), (0, u "add"), (0, u "(Ljava/lang/Object;[Ljava/lang/Object;I)V"), (13, .class_ 149), (0, u "java/util/List"), (16, u "iterator"), (0, u "()Ljava/util/Iterator;"), (5, u "()Z"), (12, u "()I"), (75, .class_ 263), (0, u "java/util/ArrayList$ListItr"), (3, .class_ 268), (0, u "java/util/ArrayList$Itr"), (0, .methodref 267 270), (0, .nameAndType 5 271), (0, u "(Ljava/util/ArrayList;)V"), (4, .class_ 277), (0, u "java/util/ArrayList$SubList"), (12, .class_ 291), (0, u "java/util/ArrayList$ArrayListSpliterator"), (37, .class_ 330), (0, u "java/util/RandomAccess"), (0, .class_ 332), (0, u "java/lang/Cloneable"), (0, .class_ 334), (0, u "java/io/Serializable"), (0, u "serialVersionUID"), (0, u "J"), (3, u "DEFAULT_CAPACITY"), (22, u "isEmpty"), (17, u "get"), (118, .class_ 501), (0, u "java/util/ArrayList$SubList$2"), (0, .class_ 503), (0, u "java/util/ArrayList$SubList$1")] 5

def k14c0 : Code := { maxStack := 2, maxLocals := 1, code := jdk_38_method_2_code, exceptionTable := #[], attributes := #[] }
def k14m0 : Method := { name := "<init>", desc := "()V", sig := { parameters := [], returnType := none }, accessFlags := 1, code := some k14c0 }
def k14c1 : Code := { maxStack := 4, maxLocals := 4, code := jdk_38_method_6_code, exceptionTable := #[], attributes := #[] }
def k14m1 : Method := { name := "grow", desc := "(I)[Ljava/lang/Object;", sig := { parameters := [.int], returnType := some (.array (.object "java/lang/Object")) }, accessFlags := 2, code := some k14c1 }
def k14c2 : Code := { maxStack := 3, maxLocals := 1, code := jdk_38_method_7_code, exceptionTable := #[], attributes := #[] }
def k14m2 : Method := { name := "grow", desc := "()[Ljava/lang/Object;", sig := { parameters := [], returnType := some (.array (.object "java/lang/Object")) }, accessFlags := 2, code := some k14c2 }
def k14c3 : Code := { maxStack := 1, maxLocals := 1, code := jdk_38_method_8_code, exceptionTable := #[], attributes := #[] }
def k14m3 : Method := { name := "size", desc := "()I", sig := { parameters := [], returnType := some .int }, accessFlags := 1, code := some k14c3 }
def k14c4 : Code := { maxStack := 1, maxLocals := 1, code := jdk_38_method_9_code, exceptionTable := #[], attributes := #[] }
def k14m4 : Method := { name := "isEmpty", desc := "()Z", sig := { parameters := [], returnType := some .boolean }, accessFlags := 1, code := some k14c4 }
def k14c5 : Code := { maxStack := 2, maxLocals := 2, code := jdk_38_method_18_code, exceptionTable := #[], attributes := #[] }
def k14m5 : Method := { name := "elementData", desc := "(I)Ljava/lang/Object;", sig := { parameters := [.int], returnType := some (.object "java/lang/Object") }, accessFlags := 0, code := some k14c5 }
def k14c6 : Code := { maxStack := 2, maxLocals := 2, code := jdk_38_method_20_code, exceptionTable := #[], attributes := #[] }
def k14m6 : Method := { name := "get", desc := "(I)Ljava/lang/Object;", sig := { parameters := [.int], returnType := some (.object "java/lang/Object") }, accessFlags := 1, code := some k14c6 }
def k14c7 : Code := { maxStack := 3, maxLocals := 4, code := jdk_38_method_24_code, exceptionTable := #[], attributes := #[] }
def k14m7 : Method := { name := "add", desc := "(Ljava/lang/Object;[Ljava/lang/Object;I)V", sig := { parameters := [(.object "java/lang/Object"), (.array (.object "java/lang/Object")), .int], returnType := none }, accessFlags := 2, code := some k14c7 }
def k14c8 : Code := { maxStack := 4, maxLocals := 2, code := jdk_38_method_25_code, exceptionTable := #[], attributes := #[] }
def k14m8 : Method := { name := "add", desc := "(Ljava/lang/Object;)Z", sig := { parameters := [(.object "java/lang/Object")], returnType := some .boolean }, accessFlags := 1, code := some k14c8 }
def k14c9 : Code := { maxStack := 3, maxLocals := 1, code := jdk_38_method_55_code, exceptionTable := #[], attributes := #[] }
def k14m9 : Method := { name := "iterator", desc := "()Ljava/util/Iterator;", sig := { parameters := [], returnType := some (.object "java/util/Iterator") }, accessFlags := 1, code := some k14c9 }
/-- java/util/ArrayList -/
def k14 : Class := { plain "java/util/ArrayList" (some 10) with
  accessFlags := 33
  interfaces := #[9, 11, 12, 13]
  cf := some (fileOf pool14 10 #[.nestMembers #[290, 276, 500, 502, 262, 267]] #[{ accessFlags := 1, nameIndex := 5, descriptorIndex := 6, attributes := #[] }, { accessFlags := 2, nameIndex := 71, descriptorIndex := 72, attributes := #[] }, { accessFlags := 2, nameIndex := 71, descriptorIndex := 47, attributes := #[] }, { accessFlags := 1, nameIndex := 50, descriptorIndex := 186, attributes := #[] }, { accessFlags := 1, nameIndex := 363, descriptorIndex := 173, attributes := #[] }, { accessFlags := 0, nameIndex := 13, descriptorIndex := 125, attributes := #[] }, { accessFlags := 1, nameIndex := 381, descriptorIndex := 125, attributes := #[] }, { accessFlags := 2, nameIndex := 133, descriptorIndex := 134, attributes := #[] }, { accessFlags := 1, nameIndex := 133, descriptorIndex := 96, attributes := #[] }, { accessFlags := 1, nameIndex := 166, descriptorIndex := 167, attributes := #[] }] 33 2 #[148, 329, 331, 333] #[{ accessFlags := 26, nameIndex := 335, descriptorIndex := 336, attributes := #[] }, { accessFlags := 26, nameIndex := 340, descriptorIndex := 51, attributes := #[] }, { accessFlags := 26, nameIndex := 17, descriptorIndex := 14, attributes := #[] }, { accessFlags := 26, nameIndex := 41, descriptorIndex := 14, attributes := #[] }, { accessFlags := 128, nameIndex := 13, descriptorIndex := 14, attributes := #[] }, { accessFlags := 2, nameIndex := 50, descriptorIndex := 51, attributes := #[] }])
  fields := #[{ name := "serialVersionUID", type := .long, accessFlags := 26, slot := 0, constantValue := 0 }, { name := "DEFAULT_CAPACITY", type := .int, accessFlags := 26, slot := 1, constantValue := 0 }, { name := "EMPTY_ELEMENTDATA", type := (.array (.object "java/lang/Object")), accessFlags := 26, slot := 2, constantValue := 0 }, { name := "DEFAULTCAPACITY_EMPTY_ELEMENTDATA", type := (.array (.object "java/lang/Object")), accessFlags := 26, slot := 3, constantValue := 0 }, { name := "elementData", type := (.array (.object "java/lang/Object")), accessFlags := 128, slot := 1, constantValue := 0 }, { name := "size", type := .int, accessFlags := 2, slot := 2, constantValue := 0 }]
  methods := #[k14m0, k14m1, k14m2, k14m3, k14m4, k14m5, k14m6, k14m7, k14m8, k14m9]
  instanceTypes := #[.int, (.array (.object "java/lang/Object")), .int]
  staticTypes := #[.long, .int, (.array (.object "java/lang/Object")), (.array (.object "java/lang/Object"))]
  resolved := Array.replicate 509 none
  statics := some 0 }

def pool15 : Array CpInfo := pool [(1, .class_ 2), (0, u "java/lang/constant/Constable"), (0, .class_ 4), (0, u "java/lang/Object")] 6

/-- java/lang/constant/Constable -/
def k15 : Class := { plain "java/lang/constant/Constable" (some 0) with
  accessFlags := 1537
  interfaces := #[]
  cf := some (fileOf pool15 1 #[] #[] 1537 3 #[] #[])
  fields := #[]
  methods := #[]
  instanceTypes := #[]
  staticTypes := #[]
  resolved := Array.replicate 11 none
  statics := none }

def pool16 : Array CpInfo := pool [(1, .class_ 2), (0, u "java/lang/Comparable"), (0, .class_ 4), (0, u "java/lang/Object")] 7

/-- java/lang/Comparable -/
def k16 : Class := { plain "java/lang/Comparable" (some 0) with
  accessFlags := 1537
  interfaces := #[]
  cf := some (fileOf pool16 1 #[] #[] 1537 3 #[] #[])
  fields := #[]
  methods := #[]
  instanceTypes := #[]
  staticTypes := #[]
  resolved := Array.replicate 12 none
  statics := none }

def pool17 : Array CpInfo := pool [(2, .class_ 4), (1, u "java/lang/Enum"), (0, u "name"), (0, u "Ljava/lang/String;"), (2, u "ordinal"), (0, u "I"), (1, .class_ 14), (1, u "java/lang/Object"), (4, u "hash"), (86, .class_ 108), (1, u "java/lang/Enum$EnumDesc"), (2, .class_ 112), (0, u "java/lang/constant/Constable"), (0, .class_ 114), (0, u "java/lang/Comparable"), (0, .class_ 116), (0, u "java/io/Serializable")] 87

/-- java/lang/Enum -/
def k17 : Class := { plain "java/lang/Enum" (some 0) with
  accessFlags := 1057
  interfaces := #[15, 16, 13]
  cf := some (fileOf pool17 2 #[.nestMembers #[106]] #[] 1057 12 #[111, 113, 115] #[{ accessFlags := 18, nameIndex := 5, descriptorIndex := 6, attributes := #[] }, { accessFlags := 18, nameIndex := 9, descriptorIndex := 10, attributes := #[] }, { accessFlags := 2, nameIndex := 19, descriptorIndex := 10, attributes := #[] }])
  fields := #[{ name := "name", type := (.object "java/lang/String"), accessFlags := 18, slot := 0, constantValue := 0 }, { name := "ordinal", type := .int, accessFlags := 18, slot := 1, constantValue := 0 }, { name := "hash", type := .int, accessFlags := 2, slot := 2, constantValue := 0 }]
  methods := #[]
  instanceTypes := #[(.object "java/lang/String"), .int, .int]
  staticTypes := #[]
  resolved := Array.replicate 204 none
  statics := none }

def pool18 : Array CpInfo := pool [(1, .class_ 2), (0, u "com/example/graphwarden/graphwarden/chain/ChainPartition$Kind"), (2, u "A"), (0, u "Lcom/example/graphwarden/graphwarden/chain/ChainPartition$Kind;"), (2, u "B"), (2, u "ISOLATED"), (2, u "$VALUES"), (0, u "[Lcom/example/graphwarden/graphwarden/chain/ChainPartition$Kind;"), (6, .class_ 25), (1, u "java/lang/Enum"), (26, .class_ 53), (0, u "com/example/graphwarden/graphwarden/chain/ChainPartition")] 2

/-- com/example/graphwarden/graphwarden/chain/ChainPartition$Kind -/
def k18 : Class := { plain "com/example/graphwarden/graphwarden/chain/ChainPartition$Kind" (some 17) with
  accessFlags := 16432
  interfaces := #[]
  cf := some (fileOf pool18 1 #[.nestHost 52] #[] 16432 23 #[] #[{ accessFlags := 16409, nameIndex := 5, descriptorIndex := 6, attributes := #[] }, { accessFlags := 16409, nameIndex := 9, descriptorIndex := 6, attributes := #[] }, { accessFlags := 16409, nameIndex := 12, descriptorIndex := 6, attributes := #[] }, { accessFlags := 4122, nameIndex := 15, descriptorIndex := 16, attributes := #[] }])
  fields := #[{ name := "A", type := (.object "com/example/graphwarden/graphwarden/chain/ChainPartition$Kind"), accessFlags := 16409, slot := 0, constantValue := 0 }, { name := "B", type := (.object "com/example/graphwarden/graphwarden/chain/ChainPartition$Kind"), accessFlags := 16409, slot := 1, constantValue := 0 }, { name := "ISOLATED", type := (.object "com/example/graphwarden/graphwarden/chain/ChainPartition$Kind"), accessFlags := 16409, slot := 2, constantValue := 0 }, { name := "$VALUES", type := (.array (.object "com/example/graphwarden/graphwarden/chain/ChainPartition$Kind")), accessFlags := 4122, slot := 3, constantValue := 0 }]
  methods := #[]
  instanceTypes := #[(.object "java/lang/String"), .int, .int]
  staticTypes := #[(.object "com/example/graphwarden/graphwarden/chain/ChainPartition$Kind"), (.object "com/example/graphwarden/graphwarden/chain/ChainPartition$Kind"), (.object "com/example/graphwarden/graphwarden/chain/ChainPartition$Kind"), (.array (.object "com/example/graphwarden/graphwarden/chain/ChainPartition$Kind"))]
  resolved := Array.replicate 56 none
  statics := some 1 }

def pool19 : Array CpInfo := pool [(1, .class_ 2), (0, u "com/example/graphwarden/graphwarden/partition/OrderedPartition"), (0, .methodref 4 5), (0, .class_ 6), (0, .nameAndType 7 8), (0, u "java/lang/Object"), (0, u "<init>"), (0, u "()V"), (0, .fieldref 10 11), (0, .class_ 12), (0, .nameAndType 13 14), (0, u "com/example/graphwarden/graphwarden/partition/OrderedPartition$Block"), (0, u "head"), (0, u "I"), (0, .fieldref 10 16), (0, .nameAndType 17 14), (0, u "previous"), (0, .fieldref 10 19), (0, .nameAndType 20 14), (0, u "next"), (0, .fieldref 10 22), (0, .nameAndType 23 24), (0, u "partition"), (0, u "Lcom/example/graphwarden/graphwarden/partition/OrderedPartition;"), (0, .fieldref 10 26), (0, .nameAndType 27 28), (0, u "kind"), (0, u "Ljava/lang/Object;"), (0, .fieldref 10 30), (0, .nameAndType 31 14), (0, u "size"), (0, .fieldref 10 33), (0, .nameAndType 34 14), (0, u "marked"), (0, .fieldref 1 36), (0, .nameAndType 37 38), (0, u "vertices"), (0, u "Lcom/example/graphwarden/graphwarden/partition/OrderedPartition$Table;"), (0, .methodref 40 41), (0, .class_ 42), (0, .nameAndType 43 44), (0, u "com/example/graphwarden/graphwarden/partition/OrderedPartition$Table"), (0, u "get"), (0, u "(I)Ljava/lang/Object;"), (0, .class_ 46), (0, u "com/example/graphwarden/graphwarden/partition/OrderedPartition$Vertex"), (2, u "()Lcom/example/graphwarden/graphwarden/partition/OrderedPartition$Vertex;"), (3, .fieldref 1 54), (0, .nameAndType 55 38), (0, u "blocks"), (3, u "number"), (0, u "(Lcom/example/graphwarden/graphwarden/partition/OrderedPartition;Ljava/lang/Object;)V"), (3, u "()Ljava/lang/Object;"), (1, u "()I"), (0, u "full"), (0, u "()Z"), (2, u "()Lcom/example/graphwarden/graphwarden/partition/OrderedPartition$Block;")] 9

def k19c0 : Code := { maxStack := 2, maxLocals := 3, code := prog_27_method_1_code, exceptionTable := #[], attributes := #[] }
def k19m0 : Method := { name := "<init>", desc := "(Lcom/example/graphwarden/graphwarden/partition/OrderedPartition;Ljava/lang/Object;)V", sig := { parameters := [(.object "com/example/graphwarden/graphwarden/partition/OrderedPartition"), (.object "java/lang/Object")], returnType := none }, accessFlags := 2, code := some k19c0 }
def k19c1 : Code := { maxStack := 1, maxLocals := 1, code := prog_27_method_2_code, exceptionTable := #[], attributes := #[] }
def k19m1 : Method := { name := "kind", desc := "()Ljava/lang/Object;", sig := { parameters := [], returnType := some (.object "java/lang/Object") }, accessFlags := 1, code := some k19c1 }
def k19c2 : Code := { maxStack := 1, maxLocals := 1, code := prog_27_method_4_code, exceptionTable := #[], attributes := #[] }
def k19m2 : Method := { name := "marked", desc := "()I", sig := { parameters := [], returnType := some .int }, accessFlags := 1, code := some k19c2 }
def k19c3 : Code := { maxStack := 2, maxLocals := 1, code := prog_27_method_5_code, exceptionTable := #[], attributes := #[] }
def k19m3 : Method := { name := "full", desc := "()Z", sig := { parameters := [], returnType := some .boolean }, accessFlags := 1, code := some k19c3 }
def k19c4 : Code := { maxStack := 2, maxLocals := 1, code := prog_27_method_6_code, exceptionTable := #[], attributes := #[] }
def k19m4 : Method := { name := "head", desc := "()Lcom/example/graphwarden/graphwarden/partition/OrderedPartition$Vertex;", sig := { parameters := [], returnType := some (.object "com/example/graphwarden/graphwarden/partition/OrderedPartition$Vertex") }, accessFlags := 1, code := some k19c4 }
def k19c5 : Code := { maxStack := 2, maxLocals := 1, code := prog_27_method_9_code, exceptionTable := #[], attributes := #[] }
def k19m5 : Method := { name := "next", desc := "()Lcom/example/graphwarden/graphwarden/partition/OrderedPartition$Block;", sig := { parameters := [], returnType := some (.object "com/example/graphwarden/graphwarden/partition/OrderedPartition$Block") }, accessFlags := 1, code := some k19c5 }
/-- com/example/graphwarden/graphwarden/partition/OrderedPartition$Block -/
def k19 : Class := { plain "com/example/graphwarden/graphwarden/partition/OrderedPartition$Block" (some 0) with
  accessFlags := 49
  interfaces := #[]
  cf := some (fileOf pool19 10 #[.nestHost 1] #[{ accessFlags := 2, nameIndex := 7, descriptorIndex := 60, attributes := #[] }, { accessFlags := 1, nameIndex := 27, descriptorIndex := 64, attributes := #[] }, { accessFlags := 1, nameIndex := 34, descriptorIndex := 66, attributes := #[] }, { accessFlags := 1, nameIndex := 67, descriptorIndex := 68, attributes := #[] }, { accessFlags := 1, nameIndex := 13, descriptorIndex := 49, attributes := #[] }, { accessFlags := 1, nameIndex := 20, descriptorIndex := 71, attributes := #[] }] 49 4 #[] #[{ accessFlags := 18, nameIndex := 23, descriptorIndex := 24, attributes := #[] }, { accessFlags := 18, nameIndex := 27, descriptorIndex := 28, attributes := #[] }, { accessFlags := 2, nameIndex := 59, descriptorIndex := 14, attributes := #[] }, { accessFlags := 2, nameIndex := 31, descriptorIndex := 14, attributes := #[] }, { accessFlags := 2, nameIndex := 34, descriptorIndex := 14, attributes := #[] }, { accessFlags := 2, nameIndex := 13, descriptorIndex := 14, attributes := #[] }, { accessFlags := 2, nameIndex := 17, descriptorIndex := 14, attributes := #[] }, { accessFlags := 2, nameIndex := 20, descriptorIndex := 14, attributes := #[] }])
  fields := #[{ name := "partition", type := (.object "com/example/graphwarden/graphwarden/partition/OrderedPartition"), accessFlags := 18, slot := 0, constantValue := 0 }, { name := "kind", type := (.object "java/lang/Object"), accessFlags := 18, slot := 1, constantValue := 0 }, { name := "number", type := .int, accessFlags := 2, slot := 2, constantValue := 0 }, { name := "size", type := .int, accessFlags := 2, slot := 3, constantValue := 0 }, { name := "marked", type := .int, accessFlags := 2, slot := 4, constantValue := 0 }, { name := "head", type := .int, accessFlags := 2, slot := 5, constantValue := 0 }, { name := "previous", type := .int, accessFlags := 2, slot := 6, constantValue := 0 }, { name := "next", type := .int, accessFlags := 2, slot := 7, constantValue := 0 }]
  methods := #[k19m0, k19m1, k19m2, k19m3, k19m4, k19m5]
  instanceTypes := #[(.object "com/example/graphwarden/graphwarden/partition/OrderedPartition"), (.object "java/lang/Object"), .int, .int, .int, .int, .int, .int]
  staticTypes := #[]
  resolved := Array.replicate 81 none
  statics := none }

def pool20 : Array CpInfo := pool [(1, .class_ 2), (0, u "java/lang/Math"), (1, .class_ 6), (1, u "java/lang/Object"), (0, u "<init>"), (0, u "()V"), (89, .class_ 100), (1, u "java/lang/Math$RandomNumberGeneratorHolder"), (71, u "negativeZeroFloatBits"), (0, u "J"), (2, u "negativeZeroDoubleBits"), (21, u "max"), (46, u "$assertionsDisabled"), (0, u "Z"), (88, u "(II)I"), (2, u "twoToTheDoubleScaleDown"), (0, u "D"), (4, u "twoToTheDoubleScaleUp"), (9, u "E"), (3, u "PI"), (2, u "TAU"), (2, u "DEGREES_TO_RADIANS"), (0, u "RADIANS_TO_DEGREES")] 94

def k20m0 : Method := { name := "<init>", desc := "()V", sig := { parameters := [], returnType := none }, accessFlags := 2, code := none }
def k20c1 : Code := { maxStack := 2, maxLocals := 2, code := jdk_29_method_65_code, exceptionTable := #[], attributes := #[] }
def k20m1 : Method := { name := "max", desc := "(II)I", sig := { parameters := [.int, .int], returnType := some .int }, accessFlags := 9, code := some k20c1 }
/-- java/lang/Math -/
def k20 : Class := { plain "java/lang/Math" (some 0) with
  accessFlags := 49
  interfaces := #[]
  cf := some (fileOf pool20 1 #[.nestMembers #[98]] #[{ accessFlags := 2, nameIndex := 7, descriptorIndex := 8, attributes := #[] }, { accessFlags := 9, nameIndex := 198, descriptorIndex := 335, attributes := #[] }] 49 4 #[] #[{ accessFlags := 25, nameIndex := 354, descriptorIndex := 339, attributes := #[] }, { accessFlags := 25, nameIndex := 358, descriptorIndex := 339, attributes := #[] }, { accessFlags := 25, nameIndex := 361, descriptorIndex := 339, attributes := #[] }, { accessFlags := 26, nameIndex := 364, descriptorIndex := 339, attributes := #[] }, { accessFlags := 26, nameIndex := 365, descriptorIndex := 339, attributes := #[] }, { accessFlags := 26, nameIndex := 172, descriptorIndex := 173, attributes := #[] }, { accessFlags := 26, nameIndex := 176, descriptorIndex := 173, attributes := #[] }, { accessFlags := 8, nameIndex := 344, descriptorIndex := 339, attributes := #[] }, { accessFlags := 8, nameIndex := 338, descriptorIndex := 339, attributes := #[] }, { accessFlags := 4120, nameIndex := 245, descriptorIndex := 246, attributes := #[] }])
  fields := #[{ name := "E", type := .double, accessFlags := 25, slot := 0, constantValue := 0 }, { name := "PI", type := .double, accessFlags := 25, slot := 1, constantValue := 0 }, { name := "TAU", type := .double, accessFlags := 25, slot := 2, constantValue := 0 }, { name := "DEGREES_TO_RADIANS", type := .double, accessFlags := 26, slot := 3, constantValue := 0 }, { name := "RADIANS_TO_DEGREES", type := .double, accessFlags := 26, slot := 4, constantValue := 0 }, { name := "negativeZeroFloatBits", type := .long, accessFlags := 26, slot := 5, constantValue := 0 }, { name := "negativeZeroDoubleBits", type := .long, accessFlags := 26, slot := 6, constantValue := 0 }, { name := "twoToTheDoubleScaleUp", type := .double, accessFlags := 8, slot := 7, constantValue := 0 }, { name := "twoToTheDoubleScaleDown", type := .double, accessFlags := 8, slot := 8, constantValue := 0 }, { name := "$assertionsDisabled", type := .boolean, accessFlags := 4120, slot := 9, constantValue := 0 }]
  methods := #[k20m0, k20m1]
  instanceTypes := #[]
  staticTypes := #[.double, .double, .double, .double, .double, .long, .long, .double, .double, .boolean]
  resolved := Array.replicate 460 none
  statics := none }

def pool21 : Array CpInfo := pool [(1, .class_ 2), (0, u "com/example/graphwarden/graphwarden/partition/OrderedPartition"), (0, .methodref 4 5), (0, .class_ 6), (0, .nameAndType 7 8), (0, u "java/lang/Object"), (0, u "<init>"), (0, u "()V"), (0, .fieldref 10 11), (0, .class_ 12), (0, .nameAndType 13 14), (0, u "com/example/graphwarden/graphwarden/partition/OrderedPartition$Vertex"), (0, u "number"), (0, u "I"), (0, .fieldref 10 16), (0, .nameAndType 17 14), (0, u "block"), (0, .fieldref 10 19), (0, .nameAndType 20 14), (0, u "previous"), (0, .fieldref 10 22), (0, .nameAndType 23 14), (0, u "next"), (0, .fieldref 10 25), (0, .nameAndType 26 27), (0, u "name"), (0, u "Ljava/lang/String;"), (0, .fieldref 10 29), (0, .nameAndType 30 14), (0, u "degree"), (0, .fieldref 10 32), (0, .nameAndType 33 34), (0, u "partition"), (0, u "Lcom/example/graphwarden/graphwarden/partition/OrderedPartition;"), (0, .fieldref 1 36), (0, .nameAndType 37 38), (0, u "blocks"), (0, u "Lcom/example/graphwarden/graphwarden/partition/OrderedPartition$Table;"), (0, .methodref 40 41), (0, .class_ 42), (0, .nameAndType 43 44), (0, u "com/example/graphwarden/graphwarden/partition/OrderedPartition$Table"), (0, u "get"), (0, u "(I)Ljava/lang/Object;"), (0, .class_ 46), (0, u "com/example/graphwarden/graphwarden/partition/OrderedPartition$Block"), (5, u "(Ljava/lang/String;)V"), (3, u "()I"), (0, u "()Lcom/example/graphwarden/graphwarden/partition/OrderedPartition$Block;")] 12

def k21c0 : Code := { maxStack := 2, maxLocals := 2, code := prog_29_method_1_code, exceptionTable := #[], attributes := #[] }
def k21m0 : Method := { name := "<init>", desc := "(Ljava/lang/String;)V", sig := { parameters := [(.object "java/lang/String")], returnType := none }, accessFlags := 1, code := some k21c0 }
def k21c1 : Code := { maxStack := 1, maxLocals := 1, code := prog_29_method_3_code, exceptionTable := #[], attributes := #[] }
def k21m1 : Method := { name := "degree", desc := "()I", sig := { parameters := [], returnType := some .int }, accessFlags := 1, code := some k21c1 }
def k21c2 : Code := { maxStack := 2, maxLocals := 1, code := prog_29_method_4_code, exceptionTable := #[], attributes := #[] }
def k21m2 : Method := { name := "block", desc := "()Lcom/example/graphwarden/graphwarden/partition/OrderedPartition$Block;", sig := { parameters := [], returnType := some (.object "com/example/graphwarden/graphwarden/partition/OrderedPartition$Block") }, accessFlags := 1, code := some k21c2 }
/-- com/example/graphwarden/graphwarden/partition/OrderedPartition$Vertex -/
def k21 : Class := { plain "com/example/graphwarden/graphwarden/partition/OrderedPartition$Vertex" (some 0) with
  accessFlags := 49
  interfaces := #[]
  cf := some (fileOf pool21 10 #[.nestHost 1] #[{ accessFlags := 1, nameIndex := 7, descriptorIndex := 52, attributes := #[] }, { accessFlags := 1, nameIndex := 30, descriptorIndex := 56, attributes := #[] }, { accessFlags := 1, nameIndex := 17, descriptorIndex := 57, attributes := #[] }] 49 4 #[] #[{ accessFlags := 18, nameIndex := 26, descriptorIndex := 27, attributes := #[] }, { accessFlags := 2, nameIndex := 33, descriptorIndex := 34, attributes := #[] }, { accessFlags := 2, nameIndex := 13, descriptorIndex := 14, attributes := #[] }, { accessFlags := 2, nameIndex := 30, descriptorIndex := 14, attributes := #[] }, { accessFlags := 2, nameIndex := 17, descriptorIndex := 14, attributes := #[] }, { accessFlags := 2, nameIndex := 20, descriptorIndex := 14, attributes := #[] }, { accessFlags := 2, nameIndex := 23, descriptorIndex := 14, attributes := #[] }])
  fields := #[{ name := "name", type := (.object "java/lang/String"), accessFlags := 18, slot := 0, constantValue := 0 }, { name := "partition", type := (.object "com/example/graphwarden/graphwarden/partition/OrderedPartition"), accessFlags := 2, slot := 1, constantValue := 0 }, { name := "number", type := .int, accessFlags := 2, slot := 2, constantValue := 0 }, { name := "degree", type := .int, accessFlags := 2, slot := 3, constantValue := 0 }, { name := "block", type := .int, accessFlags := 2, slot := 4, constantValue := 0 }, { name := "previous", type := .int, accessFlags := 2, slot := 5, constantValue := 0 }, { name := "next", type := .int, accessFlags := 2, slot := 6, constantValue := 0 }]
  methods := #[k21m0, k21m1, k21m2]
  instanceTypes := #[(.object "java/lang/String"), (.object "com/example/graphwarden/graphwarden/partition/OrderedPartition"), .int, .int, .int, .int, .int]
  staticTypes := #[]
  resolved := Array.replicate 70 none
  statics := none }

def pool22 : Array CpInfo := pool [(2, .class_ 4), (1, u "java/lang/CharSequence"), (42, .class_ 48), (0, u "java/lang/CharSequence$1CodePointIterator"), (10, .class_ 60), (0, u "java/lang/CharSequence$1CharIterator"), (5, .class_ 67), (0, u "java/lang/Object")] 63

/-- java/lang/CharSequence -/
def k22 : Class := { plain "java/lang/CharSequence" (some 0) with
  accessFlags := 1537
  interfaces := #[]
  cf := some (fileOf pool22 2 #[.nestMembers #[47, 59]] #[] 1537 66 #[] #[])
  fields := #[]
  methods := #[]
  instanceTypes := #[]
  staticTypes := #[]
  resolved := Array.replicate 131 none
  statics := none }

def pool23 : Array CpInfo := pool [(1, .class_ 2), (0, u "java/lang/constant/ConstantDesc"), (0, .class_ 4), (0, u "java/lang/Object")] 32

/-- java/lang/constant/ConstantDesc -/
def k23 : Class := { plain "java/lang/constant/ConstantDesc" (some 0) with
  accessFlags := 1537
  interfaces := #[]
  cf := some (fileOf pool23 1 #[] #[] 1537 3 #[] #[])
  fields := #[]
  methods := #[]
  instanceTypes := #[]
  staticTypes := #[]
  resolved := Array.replicate 37 none
  statics := none }

def pool24 : Array CpInfo := pool [(2, .class_ 4), (1, u "java/lang/Object"), (0, u "<init>"), (0, u "()V"), (3, .class_ 12), (1, u "java/lang/String"), (0, u "value"), (0, u "[B"), (2, u "coder"), (0, u "B"), (2, u "hash"), (0, u "I"), (2, u "hashIsZero"), (0, u "Z"), (13, u "COMPACT_STRINGS"), (534, .class_ 576), (0, u "java/lang/CharSequence"), (22, u "CASE_INSENSITIVE_ORDER"), (0, u "Ljava/util/Comparator;"), (500, u "serialPersistentFields"), (0, u "[Ljava/io/ObjectStreamField;"), (0, .class_ 1104), (0, u "java/lang/String$CaseInsensitiveComparator"), (1, .class_ 1107), (0, u "java/io/Serializable"), (0, .class_ 1109), (0, u "java/lang/Comparable"), (0, .class_ 1111), (0, u "java/lang/constant/Constable"), (0, .class_ 1113), (0, u "java/lang/constant/ConstantDesc"), (2, u "serialVersionUID"), (0, u "J"), (3, u "REPL"), (0, u "C"), (2, u "LATIN1"), (1, u "UTF16")] 323

def k24m0 : Method := { name := "<init>", desc := "()V", sig := { parameters := [], returnType := none }, accessFlags := 1, code := none }
/-- java/lang/String -/
def k24 : Class := { plain "java/lang/String" (some 0) with
  accessFlags := 49
  interfaces := #[13, 16, 22, 15, 23]
  cf := some (fileOf pool24 10 #[.nestMembers #[1103]] #[{ accessFlags := 1, nameIndex := 5, descriptorIndex := 6, attributes := #[] }] 49 2 #[1106, 1108, 575, 1110, 1112] #[{ accessFlags := 18, nameIndex := 13, descriptorIndex := 14, attributes := #[] }, { accessFlags := 18, nameIndex := 17, descriptorIndex := 18, attributes := #[] }, { accessFlags := 2, nameIndex := 21, descriptorIndex := 22, attributes := #[] }, { accessFlags := 2, nameIndex := 25, descriptorIndex := 26, attributes := #[] }, { accessFlags := 26, nameIndex := 1116, descriptorIndex := 1117, attributes := #[] }, { accessFlags := 24, nameIndex := 40, descriptorIndex := 26, attributes := #[] }, { accessFlags := 26, nameIndex := 1101, descriptorIndex := 1102, attributes := #[] }, { accessFlags := 26, nameIndex := 1121, descriptorIndex := 1122, attributes := #[] }, { accessFlags := 25, nameIndex := 599, descriptorIndex := 600, attributes := #[] }, { accessFlags := 24, nameIndex := 1125, descriptorIndex := 18, attributes := #[] }, { accessFlags := 24, nameIndex := 1127, descriptorIndex := 18, attributes := #[] }])
  fields := #[{ name := "value", type := (.array .byte), accessFlags := 18, slot := 0, constantValue := 0 }, { name := "coder", type := .byte, accessFlags := 18, slot := 1, constantValue := 0 }, { name := "hash", type := .int, accessFlags := 2, slot := 2, constantValue := 0 }, { name := "hashIsZero", type := .boolean, accessFlags := 2, slot := 3, constantValue := 0 }, { name := "serialVersionUID", type := .long, accessFlags := 26, slot := 0, constantValue := 0 }, { name := "COMPACT_STRINGS", type := .boolean, accessFlags := 24, slot := 1, constantValue := 0 }, { name := "serialPersistentFields", type := (.array (.object "java/io/ObjectStreamField")), accessFlags := 26, slot := 2, constantValue := 0 }, { name := "REPL", type := .char, accessFlags := 26, slot := 3, constantValue := 0 }, { name := "CASE_INSENSITIVE_ORDER", type := (.object "java/util/Comparator"), accessFlags := 25, slot := 4, constantValue := 0 }, { name := "LATIN1", type := .byte, accessFlags := 24, slot := 5, constantValue := 0 }, { name := "UTF16", type := .byte, accessFlags := 24, slot := 6, constantValue := 0 }]
  methods := #[k24m0]
  instanceTypes := #[(.array .byte), .byte, .int, .boolean]
  staticTypes := #[.long, .boolean, (.array (.object "java/io/ObjectStreamField")), .char, (.object "java/util/Comparator"), .byte, .byte]
  resolved := Array.replicate 1451 none
  statics := none }

def pool25 : Array CpInfo := pool [(2, .class_ 4), (1, u "java/lang/Object"), (0, u "<init>"), (0, u "()V"), (0, .class_ 8), (0, u "java/lang/Record")] 13

def k25m0 : Method := { name := "<init>", desc := "()V", sig := { parameters := [], returnType := none }, accessFlags := 4, code := none }
/-- java/lang/Record -/
def k25 : Class := { plain "java/lang/Record" (some 0) with
  accessFlags := 1057
  interfaces := #[]
  cf := some (fileOf pool25 7 #[] #[{ accessFlags := 4, nameIndex := 5, descriptorIndex := 6, attributes := #[] }] 1057 2 #[] #[])
  fields := #[]
  methods := #[k25m0]
  instanceTypes := #[]
  staticTypes := #[]
  resolved := Array.replicate 22 none
  statics := none }

def pool26 : Array CpInfo := pool [(2, .class_ 4), (1, u "java/lang/Record"), (3, u "kind"), (7, .class_ 18), (1, u "com/example/graphwarden/graphwarden/Outcome$Kind"), (1, u "Lcom/example/graphwarden/graphwarden/Outcome$Kind;"), (18, .fieldref 40 41), (0, .class_ 42), (0, .nameAndType 8 20), (0, u "com/example/graphwarden/graphwarden/Outcome"), (2, u "proof"), (0, u "Lcom/example/graphwarden/graphwarden/Proof;"), (2, u "error"), (0, u "Lcom/example/graphwarden/graphwarden/EditError;"), (0, .fieldref 40 52), (0, .nameAndType 53 54), (0, u "APPLIED"), (0, u "Lcom/example/graphwarden/graphwarden/Outcome;"), (42, u "applied"), (0, u "()Lcom/example/graphwarden/graphwarden/Outcome;"), (6, u "()Lcom/example/graphwarden/graphwarden/Outcome$Kind;")] 39

def k26c0 : Code := { maxStack := 1, maxLocals := 0, code := prog_8_method_2_code, exceptionTable := #[], attributes := #[] }
def k26m0 : Method := { name := "applied", desc := "()Lcom/example/graphwarden/graphwarden/Outcome;", sig := { parameters := [], returnType := some (.object "com/example/graphwarden/graphwarden/Outcome") }, accessFlags := 9, code := some k26c0 }
def k26c1 : Code := { maxStack := 1, maxLocals := 1, code := prog_8_method_8_code, exceptionTable := #[], attributes := #[] }
def k26m1 : Method := { name := "kind", desc := "()Lcom/example/graphwarden/graphwarden/Outcome$Kind;", sig := { parameters := [], returnType := some (.object "com/example/graphwarden/graphwarden/Outcome$Kind") }, accessFlags := 1, code := some k26c1 }
/-- com/example/graphwarden/graphwarden/Outcome -/
def k26 : Class := { plain "com/example/graphwarden/graphwarden/Outcome" (some 25) with
  accessFlags := 49
  interfaces := #[]
  cf := some (fileOf pool26 40 #[.nestMembers #[16]] #[{ accessFlags := 9, nameIndex := 97, descriptorIndex := 98, attributes := #[] }, { accessFlags := 1, nameIndex := 8, descriptorIndex := 105, attributes := #[] }] 49 2 #[] #[{ accessFlags := 18, nameIndex := 8, descriptorIndex := 20, attributes := #[] }, { accessFlags := 18, nameIndex := 45, descriptorIndex := 46, attributes := #[] }, { accessFlags := 18, nameIndex := 49, descriptorIndex := 50, attributes := #[] }, { accessFlags := 26, nameIndex := 53, descriptorIndex := 54, attributes := #[] }])
  fields := #[{ name := "kind", type := (.object "com/example/graphwarden/graphwarden/Outcome$Kind"), accessFlags := 18, slot := 0, constantValue := 0 }, { name := "proof", type := (.object "com/example/graphwarden/graphwarden/Proof"), accessFlags := 18, slot := 1, constantValue := 0 }, { name := "error", type := (.object "com/example/graphwarden/graphwarden/EditError"), accessFlags := 18, slot := 2, constantValue := 0 }, { name := "APPLIED", type := (.object "com/example/graphwarden/graphwarden/Outcome"), accessFlags := 26, slot := 0, constantValue := 0 }]
  methods := #[k26m0, k26m1]
  instanceTypes := #[(.object "com/example/graphwarden/graphwarden/Outcome$Kind"), (.object "com/example/graphwarden/graphwarden/Proof"), (.object "com/example/graphwarden/graphwarden/EditError")]
  staticTypes := #[(.object "com/example/graphwarden/graphwarden/Outcome")]
  resolved := Array.replicate 145 none
  statics := some 2 }

def pool27 : Array CpInfo := pool [(16, .class_ 18), (1, u "java/util/Iterator"), (0, u "hasNext"), (0, u "()Z"), (2, u "next"), (0, u "()Ljava/lang/Object;"), (6, .class_ 32), (0, u "java/lang/Object")] 20

def k27m0 : Method := { name := "hasNext", desc := "()Z", sig := { parameters := [], returnType := some .boolean }, accessFlags := 1025, code := none }
def k27m1 : Method := { name := "next", desc := "()Ljava/lang/Object;", sig := { parameters := [], returnType := some (.object "java/lang/Object") }, accessFlags := 1025, code := none }
/-- java/util/Iterator -/
def k27 : Class := { plain "java/util/Iterator" (some 0) with
  accessFlags := 1537
  interfaces := #[]
  cf := some (fileOf pool27 16 #[] #[{ accessFlags := 1025, nameIndex := 19, descriptorIndex := 20, attributes := #[] }, { accessFlags := 1025, nameIndex := 23, descriptorIndex := 24, attributes := #[] }] 1537 31 #[] #[])
  fields := #[]
  methods := #[k27m0, k27m1]
  instanceTypes := #[]
  staticTypes := #[]
  resolved := Array.replicate 53 none
  statics := none }

def pool28 : Array CpInfo := pool [(1, .fieldref 2 3), (0, .class_ 4), (0, .nameAndType 5 6), (0, u "java/util/ArrayList$Itr"), (0, u "this$0"), (0, u "Ljava/util/ArrayList;"), (0, .methodref 8 9), (0, .class_ 10), (0, .nameAndType 11 12), (0, u "java/lang/Object"), (0, u "<init>"), (0, u "()V"), (0, .fieldref 2 14), (0, .nameAndType 15 16), (0, u "lastRet"), (0, u "I"), (0, .fieldref 18 19), (0, .class_ 20), (0, .nameAndType 21 16), (0, u "java/util/ArrayList"), (0, u "modCount"), (0, .fieldref 2 23), (0, .nameAndType 24 16), (0, u "expectedModCount"), (0, .fieldref 2 26), (0, .nameAndType 27 16), (0, u "cursor"), (0, .fieldref 18 29), (0, .nameAndType 30 16), (0, u "size"), (0, .methodref 2 32), (0, .nameAndType 33 12), (0, u "checkForComodification"), (3, .fieldref 18 38), (0, .nameAndType 39 40), (0, u "elementData"), (0, u "[Ljava/lang/Object;"), (28, .class_ 70), (0, u "java/util/Iterator"), (0, u "(Ljava/util/ArrayList;)V"), (8, u "hasNext"), (0, u "()Z"), (1, u "next"), (0, u "()Ljava/lang/Object;")] 19

def k28c0 : Code := { maxStack := 2, maxLocals := 2, code := jdk_49_method_1_code, exceptionTable := #[], attributes := #[] }
def k28m0 : Method := { name := "<init>", desc := "(Ljava/util/ArrayList;)V", sig := { parameters := [(.object "java/util/ArrayList")], returnType := none }, accessFlags := 0, code := some k28c0 }
def k28c1 : Code := { maxStack := 2, maxLocals := 1, code := jdk_49_method_2_code, exceptionTable := #[], attributes := #[] }
def k28m1 : Method := { name := "hasNext", desc := "()Z", sig := { parameters := [], returnType := some .boolean }, accessFlags := 1, code := some k28c1 }
def k28c2 : Code := { maxStack := 4, maxLocals := 3, code := jdk_49_method_3_code, exceptionTable := #[], attributes := #[] }
def k28m2 : Method := { name := "next", desc := "()Ljava/lang/Object;", sig := { parameters := [], returnType := some (.object "java/lang/Object") }, accessFlags := 1, code := some k28c2 }
def k28c3 : Code := { maxStack := 2, maxLocals := 1, code := jdk_49_method_6_code, exceptionTable := #[], attributes := #[] }
def k28m3 : Method := { name := "checkForComodification", desc := "()V", sig := { parameters := [], returnType := none }, accessFlags := 16, code := some k28c3 }
/-- java/util/ArrayList$Itr -/
def k28 : Class := { plain "java/util/ArrayList$Itr" (some 0) with
  accessFlags := 32
  interfaces := #[27]
  cf := some (fileOf pool28 2 #[.nestHost 18] #[{ accessFlags := 0, nameIndex := 11, descriptorIndex := 71, attributes := #[] }, { accessFlags := 1, nameIndex := 80, descriptorIndex := 81, attributes := #[] }, { accessFlags := 1, nameIndex := 83, descriptorIndex := 84, attributes := #[] }, { accessFlags := 16, nameIndex := 33, descriptorIndex := 12, attributes := #[] }] 32 8 #[69] #[{ accessFlags := 0, nameIndex := 27, descriptorIndex := 16, attributes := #[] }, { accessFlags := 0, nameIndex := 15, descriptorIndex := 16, attributes := #[] }, { accessFlags := 0, nameIndex := 24, descriptorIndex := 16, attributes := #[] }, { accessFlags := 4112, nameIndex := 5, descriptorIndex := 6, attributes := #[] }])
  fields := #[{ name := "cursor", type := .int, accessFlags := 0, slot := 0, constantValue := 0 }, { name := "lastRet", type := .int, accessFlags := 0, slot := 1, constantValue := 0 }, { name := "expectedModCount", type := .int, accessFlags := 0, slot := 2, constantValue := 0 }, { name := "this$0", type := (.object "java/util/ArrayList"), accessFlags := 4112, slot := 3, constantValue := 0 }]
  methods := #[k28m0, k28m1, k28m2, k28m3]
  instanceTypes := #[.int, .int, .int, (.object "java/util/ArrayList")]
  staticTypes := #[]
  resolved := Array.replicate 104 none
  statics := none }

def pool29 : Array CpInfo := pool [(2, .class_ 4), (1, u "java/lang/Object"), (0, u "<init>"), (0, u "()V"), (35, .class_ 44), (1, u "java/util/Objects"), (60, .methodref 106 107), (0, .class_ 108), (0, .nameAndType 109 110), (0, u "jdk/internal/util/Preconditions"), (0, u "checkIndex"), (0, u "(IILjava/util/function/BiFunction;)I"), (60, u "(II)I")] 12

def k29m0 : Method := { name := "<init>", desc := "()V", sig := { parameters := [], returnType := none }, accessFlags := 2, code := none }
def k29c1 : Code := { maxStack := 3, maxLocals := 2, code := jdk_31_method_17_code, exceptionTable := #[], attributes := #[] }
def k29m1 : Method := { name := "checkIndex", desc := "(II)I", sig := { parameters := [.int, .int], returnType := some .int }, accessFlags := 9, code := some k29c1 }
/-- java/util/Objects -/
def k29 : Class := { plain "java/util/Objects" (some 0) with
  accessFlags := 49
  interfaces := #[]
  cf := some (fileOf pool29 42 #[] #[{ accessFlags := 2, nameIndex := 5, descriptorIndex := 6, attributes := #[] }, { accessFlags := 9, nameIndex := 109, descriptorIndex := 171, attributes := #[] }] 49 2 #[] #[])
  fields := #[]
  methods := #[k29m0, k29m1]
  instanceTypes := #[]
  staticTypes := #[]
  resolved := Array.replicate 184 none
  statics := none }

def pool30 : Array CpInfo := pool [(2, .class_ 4), (1, u "java/lang/Object"), (0, u "<init>"), (0, u "()V"), (17, .class_ 26), (1, u "jdk/internal/util/Preconditions"), (6, u "checkIndex"), (21, .class_ 56), (0, u "jdk/internal/util/Preconditions$4"), (57, .class_ 115), (0, u "jdk/internal/util/Preconditions$1"), (7, u "SIOOBE_FORMATTER"), (0, u "Ljava/util/function/BiFunction;"), (0, .class_ 126), (0, u "jdk/internal/util/Preconditions$2"), (3, u "AIOOBE_FORMATTER"), (0, .class_ 132), (0, u "jdk/internal/util/Preconditions$3"), (3, u "IOOBE_FORMATTER"), (41, u "(IILjava/util/function/BiFunction;)I")] 15

def k30m0 : Method := { name := "<init>", desc := "()V", sig := { parameters := [], returnType := none }, accessFlags := 1, code := none }
def k30c1 : Code := { maxStack := 3, maxLocals := 3, code := jdk_41_method_11_code, exceptionTable := #[], attributes := #[] }
def k30m1 : Method := { name := "checkIndex", desc := "(IILjava/util/function/BiFunction;)I", sig := { parameters := [.int, .int, (.object "java/util/function/BiFunction")], returnType := some .int }, accessFlags := 9, code := some k30c1 }
/-- jdk/internal/util/Preconditions -/
def k30 : Class := { plain "jdk/internal/util/Preconditions" (some 0) with
  accessFlags := 33
  interfaces := #[]
  cf := some (fileOf pool30 24 #[.nestMembers #[55, 131, 125, 114]] #[{ accessFlags := 1, nameIndex := 5, descriptorIndex := 6, attributes := #[] }, { accessFlags := 9, nameIndex := 33, descriptorIndex := 178, attributes := #[] }] 33 2 #[] #[{ accessFlags := 25, nameIndex := 123, descriptorIndex := 124, attributes := #[] }, { accessFlags := 25, nameIndex := 130, descriptorIndex := 124, attributes := #[] }, { accessFlags := 25, nameIndex := 136, descriptorIndex := 124, attributes := #[] }])
  fields := #[{ name := "SIOOBE_FORMATTER", type := (.object "java/util/function/BiFunction"), accessFlags := 25, slot := 0, constantValue := 0 }, { name := "AIOOBE_FORMATTER", type := (.object "java/util/function/BiFunction"), accessFlags := 25, slot := 1, constantValue := 0 }, { name := "IOOBE_FORMATTER", type := (.object "java/util/function/BiFunction"), accessFlags := 25, slot := 2, constantValue := 0 }]
  methods := #[k30m0, k30m1]
  instanceTypes := #[]
  staticTypes := #[(.object "java/util/function/BiFunction"), (.object "java/util/function/BiFunction"), (.object "java/util/function/BiFunction")]
  resolved := Array.replicate 194 none
  statics := none }

def pool31 : Array CpInfo := pool [(1, .class_ 2), (0, u "com/example/graphwarden/graphwarden/Outcome$Kind"), (2, u "APPLIED"), (0, u "Lcom/example/graphwarden/graphwarden/Outcome$Kind;"), (2, u "REFUSED"), (2, u "REJECTED"), (2, u "$VALUES"), (0, u "[Lcom/example/graphwarden/graphwarden/Outcome$Kind;"), (6, .class_ 25), (1, u "java/lang/Enum"), (26, .class_ 53), (0, u "com/example/graphwarden/graphwarden/Outcome")] 2

/-- com/example/graphwarden/graphwarden/Outcome$Kind -/
def k31 : Class := { plain "com/example/graphwarden/graphwarden/Outcome$Kind" (some 17) with
  accessFlags := 16433
  interfaces := #[]
  cf := some (fileOf pool31 1 #[.nestHost 52] #[] 16433 23 #[] #[{ accessFlags := 16409, nameIndex := 5, descriptorIndex := 6, attributes := #[] }, { accessFlags := 16409, nameIndex := 9, descriptorIndex := 6, attributes := #[] }, { accessFlags := 16409, nameIndex := 12, descriptorIndex := 6, attributes := #[] }, { accessFlags := 4122, nameIndex := 15, descriptorIndex := 16, attributes := #[] }])
  fields := #[{ name := "APPLIED", type := (.object "com/example/graphwarden/graphwarden/Outcome$Kind"), accessFlags := 16409, slot := 0, constantValue := 0 }, { name := "REFUSED", type := (.object "com/example/graphwarden/graphwarden/Outcome$Kind"), accessFlags := 16409, slot := 1, constantValue := 0 }, { name := "REJECTED", type := (.object "com/example/graphwarden/graphwarden/Outcome$Kind"), accessFlags := 16409, slot := 2, constantValue := 0 }, { name := "$VALUES", type := (.array (.object "com/example/graphwarden/graphwarden/Outcome$Kind")), accessFlags := 4122, slot := 3, constantValue := 0 }]
  methods := #[]
  instanceTypes := #[(.object "java/lang/String"), .int, .int]
  staticTypes := #[(.object "com/example/graphwarden/graphwarden/Outcome$Kind"), (.object "com/example/graphwarden/graphwarden/Outcome$Kind"), (.object "com/example/graphwarden/graphwarden/Outcome$Kind"), (.array (.object "com/example/graphwarden/graphwarden/Outcome$Kind"))]
  resolved := Array.replicate 56 none
  statics := some 3 }

/-- the primitive byte -/
def k32 : Class := { plain "byte" none with kind := .primitive 'B', accessFlags := 0x411 }
/-- [B -/
def k33 : Class := { plain "[B" (some 0) with kind := .array 32 .byte, interfaces := #[12, 13], accessFlags := 1041 }

/-- the primitive int -/
def k34 : Class := { plain "int" none with kind := .primitive 'I', accessFlags := 0x411 }
/-- [I -/
def k35 : Class := { plain "[I" (some 0) with kind := .array 34 .int, interfaces := #[12, 13], accessFlags := 1041 }

/-- [Ljava/lang/Object; -/
def k36 : Class := { plain "[Ljava/lang/Object;" (some 0) with kind := .array 0 (.object "java/lang/Object"), interfaces := #[12, 13], accessFlags := 1041 }

def heap : Heap := #[{ cls := 14, slots := #[.long 0, .int 0, .ref 9, .ref 10], vm := .statics 14 },
  { cls := 18, slots := #[.ref 5, .ref 6, .ref 4, .null], vm := .statics 18 },
  { cls := 26, slots := #[.ref 8], vm := .statics 26 },
  { cls := 31, slots := #[.ref 7, .null, .null, .null], vm := .statics 31 },
  { cls := 18, slots := #[.null, .int 2, .int 0], vm := .none },
  { cls := 18, slots := #[.null, .int 0, .int 0], vm := .none },
  { cls := 18, slots := #[.null, .int 1, .int 0], vm := .none },
  { cls := 31, slots := #[.null, .int 0, .int 0], vm := .none },
  { cls := 26, slots := #[.ref 7, .null, .null], vm := .none },
  { cls := 36, slots := #[], vm := .none },
  { cls := 36, slots := #[], vm := .none }]
def classes : Array Class := #[k0, k1, k2, k3, k4, k5, k6, k7, k8, k9, k10, k11, k12, k13, k14, k15, k16, k17, k18, k19, k20, k21, k22, k23, k24, k25, k26, k27, k28, k29, k30, k31, k32, k33, k34, k35, k36]
def interned : List (Array UInt16 × Addr) := []
def slotsUsed : Nat := 28
def theMethod : MethodId := ⟨1, 1⟩
def args0 : Array Value := #[.int 5, .int 7]
def aboutOver (below : List Frame) : State where
  vm := { classes := classes, interned := interned.toArray }
  heap := heap
  slotsUsed := slotsUsed
  threads := #[{ frames := .invoking theMethod args0 :: below }]
def below0 : List Frame := [.native { method := ⟨0, 0⟩, args := #[] }]
def about1 : State := aboutOver below0
def p0 : Program := .bare "" "" ""
def e0 : Env := launch0.env 0 0 0
theorem w_frames : about1.frames = Frame.invoking theMethod args0 :: below0 := rfl
set_option maxRecDepth 65536 in
theorem w_args : argsFit about1.vm theMethod args0 = true := by decide +kernel
set_option maxRecDepth 65536 in
theorem w_heap : heapFits about1 = true := by decide +kernel
set_option maxRecDepth 65536 in
theorem w_runnable : about1.curStatus? = some .runnable := by decide +kernel
set_option maxRecDepth 65536 in
theorem w_alone : about1.alone = true := by decide +kernel
set_option maxRecDepth 65536 in
theorem w_named : about1.methodNamed? x = some theMethod := by decide +kernel
set_option maxRecDepth 65536 in
theorem w_hears : about1.hears theMethod below0 = true := by decide +kernel
set_option maxRecDepth 65536 in
theorem w_ripe : about1.ripe theMethod args0 below0 = true := by decide +kernel
theorem w_running : about1.status = .running := rfl
set_option maxRecDepth 65536 in
theorem w_room : about1.hasRoom e0.platform room_1 = true :=
  launch0.hasRoom_least _ room_1 (by decide +kernel) (by decide +kernel) (by decide +kernel) (by decide +kernel) (by decide +kernel) (by decide +kernel)
theorem allAtoms_all (ts : List Jvm.Cond) (a : Array Jvm.Value) (st : Jvm.State) : (allAtoms ts).before a st = ts.all (fun c => c.before a st) := by
  induction ts with
  | nil => rfl
  | cons c t ih =>
    show (Jvm.Cond.and c (allAtoms t)).before a st = _
    rw [Jvm.Cond.before_and, ih, List.all_cons]
def words1 : List Jvm.Cond := Jvm.Cond.code x code maxLocals ret :: tables_1
/-- a 'code' word, met by the world's own term for the bytes: nothing is compared byte by byte -/
theorem code_word {y : MethodName} {bytes : ByteArray} {mx : Nat} {rt : Option FieldType} {a : Array Value} {s : State} {m : MethodId} {meth : Method} {c : Code} (h1 : s.methodNamed? y = some m) (h2 : s.vm.method? m = some meth) (h3 : meth.code = some c) (h4 : c.code = bytes)
    (h5 : (c.maxLocals == mx && c.exceptionTable.isEmpty && decide (c.maxStack ≤ mostOperands) && decide (meth.sig.returnType = rt) && !meth.locks && decide (parseMethodDescriptor y.desc = some meth.sig)) = true) : (Jvm.Cond.code y bytes mx rt).before a s = true := by
  simp only [Bool.and_eq_true, beq_iff_eq, Bool.not_eq_true', decide_eq_true_eq] at h5
  obtain ⟨⟨⟨⟨⟨g1, g2⟩, g3⟩, g4⟩, g5⟩, g6⟩ := h5
  simp [Cond.before, Cond.holds, Cond.value, h1, h2, h3, h4, g1, g2, g3, g4, g5, g6]
def isCode : Jvm.Cond → Bool
  | .code _ _ _ _ => true
  | _ => false
theorem all_split {L : List Jvm.Cond} {P : Jvm.Cond → Bool} (h1 : L.all (fun c => isCode c || P c) = true) (h2 : ∀ c ∈ L.filter isCode, P c = true) : L.all P = true := by
  refine List.all_eq_true.mpr fun c hc => ?_
  have h := List.all_eq_true.mp h1 c hc
  rcases Bool.eq_false_or_eq_true (isCode c) with hi | hi
  · exact h2 c (List.mem_filter.mpr ⟨hc, hi⟩)
  · simpa [hi] using h
set_option maxRecDepth 65536 in
theorem w_c0 : (Jvm.Cond.code x code maxLocals ret).before args0 about1 = true := code_word (m := ⟨1, 1⟩) (meth := k1m1) (c := k1c1) (by decide +kernel) rfl rfl rfl (by decide +kernel)
set_option maxRecDepth 65536 in
theorem w_c1 : (Jvm.Cond.code ({ cls := "com/example/graphwarden/graphwarden/chain/ChainPartition", name := "<init>", desc := "()V" } : Jvm.MethodName) prog_13_method_1_code (1 : Nat) (Option.none : Option Jvm.ClassFile.FieldType)).before args0 about1 = true := code_word (m := ⟨3, 0⟩) (meth := k3m0) (c := k3c0) (by decide +kernel) rfl rfl rfl (by decide +kernel)
set_option maxRecDepth 65536 in
theorem w_c2 : (Jvm.Cond.code ({ cls := "com/example/graphwarden/graphwarden/partition/OrderedPartition", name := "<init>", desc := "()V" } : Jvm.MethodName) prog_26_method_1_code (1 : Nat) (Option.none : Option Jvm.ClassFile.FieldType)).before args0 about1 = true := code_word (m := ⟨2, 0⟩) (meth := k2m0) (c := k2c0) (by decide +kernel) rfl rfl rfl (by decide +kernel)
set_option maxRecDepth 65536 in
theorem w_c3 : (Jvm.Cond.code ({ cls := "java/lang/Object", name := "<init>", desc := "()V" } : Jvm.MethodName) object_method_1_code (1 : Nat) (Option.none : Option Jvm.ClassFile.FieldType)).before args0 about1 = true := code_word (m := ⟨0, 0⟩) (meth := k0m0) (c := k0c0) (by decide +kernel) rfl rfl rfl (by decide +kernel)
set_option maxRecDepth 65536 in
theorem w_c4 : (Jvm.Cond.code ({ cls := "com/example/graphwarden/graphwarden/partition/OrderedPartition$Table", name := "<init>", desc := "()V" } : Jvm.MethodName) prog_28_method_1_code (1 : Nat) (Option.none : Option Jvm.ClassFile.FieldType)).before args0 about1 = true := code_word (m := ⟨4, 0⟩) (meth := k4m0) (c := k4c0) (by decide +kernel) rfl rfl rfl (by decide +kernel)
set_option maxRecDepth 65536 in
theorem w_c5 : (Jvm.Cond.code ({ cls := "java/util/ArrayList", name := "<init>", desc := "()V" } : Jvm.MethodName) jdk_38_method_2_code (1 : Nat) (Option.none : Option Jvm.ClassFile.FieldType)).before args0 about1 = true := code_word (m := ⟨14, 0⟩) (meth := k14m0) (c := k14c0) (by decide +kernel) rfl rfl rfl (by decide +kernel)
set_option maxRecDepth 65536 in
theorem w_c6 : (Jvm.Cond.code ({ cls := "java/util/AbstractList", name := "<init>", desc := "()V" } : Jvm.MethodName) jdk_39_method_1_code (1 : Nat) (Option.none : Option Jvm.ClassFile.FieldType)).before args0 about1 = true := code_word (m := ⟨10, 0⟩) (meth := k10m0) (c := k10c0) (by decide +kernel) rfl rfl rfl (by decide +kernel)
set_option maxRecDepth 65536 in
theorem w_c7 : (Jvm.Cond.code ({ cls := "java/util/AbstractCollection", name := "<init>", desc := "()V" } : Jvm.MethodName) jdk_22_method_1_code (1 : Nat) (Option.none : Option Jvm.ClassFile.FieldType)).before args0 about1 = true := code_word (m := ⟨7, 0⟩) (meth := k7m0) (c := k7c0) (by decide +kernel) rfl rfl rfl (by decide +kernel)
set_option maxRecDepth 65536 in
theorem w_c8 : (Jvm.Cond.code ({ cls := "com/example/graphwarden/graphwarden/partition/OrderedPartition", name := "detachedBlock", desc := "(Ljava/lang/Object;)Lcom/example/graphwarden/graphwarden/partition/OrderedPartition$Block;" } : Jvm.MethodName) prog_26_method_15_code (3 : Nat) (Option.some (Jvm.ClassFile.FieldType.object "com/example/graphwarden/graphwarden/partition/OrderedPartition$Block"))).before args0 about1 = true := code_word (m := ⟨2, 3⟩) (meth := k2m3) (c := k2c3) (by decide +kernel) rfl rfl rfl (by decide +kernel)
set_option maxRecDepth 65536 in
theorem w_c9 : (Jvm.Cond.code ({ cls := "com/example/graphwarden/graphwarden/partition/OrderedPartition$Block", name := "<init>", desc := "(Lcom/example/graphwarden/graphwarden/partition/OrderedPartition;Ljava/lang/Object;)V" } : Jvm.MethodName) prog_27_method_1_code (3 : Nat) (Option.none : Option Jvm.ClassFile.FieldType)).before args0 about1 = true := code_word (m := ⟨19, 0⟩) (meth := k19m0) (c := k19c0) (by decide +kernel) rfl rfl rfl (by decide +kernel)
set_option maxRecDepth 65536 in
theorem w_c10 : (Jvm.Cond.code ({ cls := "com/example/graphwarden/graphwarden/partition/OrderedPartition$Table", name := "add", desc := "(Ljava/lang/Object;)I" } : Jvm.MethodName) prog_28_method_2_code (3 : Nat) (Option.some Jvm.ClassFile.FieldType.int)).before args0 about1 = true := code_word (m := ⟨4, 1⟩) (meth := k4m1) (c := k4c1) (by decide +kernel) rfl rfl rfl (by decide +kernel)
set_option maxRecDepth 65536 in
theorem w_c11 : (Jvm.Cond.code ({ cls := "java/util/ArrayList", name := "add", desc := "(Ljava/lang/Object;)Z" } : Jvm.MethodName) jdk_38_method_25_code (2 : Nat) (Option.some Jvm.ClassFile.FieldType.boolean)).before args0 about1 = true := code_word (m := ⟨14, 8⟩) (meth := k14m8) (c := k14c8) (by decide +kernel) rfl rfl rfl (by decide +kernel)
set_option maxRecDepth 65536 in
theorem w_c12 : (Jvm.Cond.code ({ cls := "java/util/ArrayList", name := "add", desc := "(Ljava/lang/Object;[Ljava/lang/Object;I)V" } : Jvm.MethodName) jdk_38_method_24_code (4 : Nat) (Option.none : Option Jvm.ClassFile.FieldType)).before args0 about1 = true := code_word (m := ⟨14, 7⟩) (meth := k14m7) (c := k14c7) (by decide +kernel) rfl rfl rfl (by decide +kernel)
set_option maxRecDepth 65536 in
theorem w_c13 : (Jvm.Cond.code ({ cls := "java/util/ArrayList", name := "grow", desc := "()[Ljava/lang/Object;" } : Jvm.MethodName) jdk_38_method_7_code (1 : Nat) (Option.some (Jvm.ClassFile.FieldType.array (Jvm.ClassFile.FieldType.object "java/lang/Object")))).before args0 about1 = true := code_word (m := ⟨14, 2⟩) (meth := k14m2) (c := k14c2) (by decide +kernel) rfl rfl rfl (by decide +kernel)
set_option maxRecDepth 65536 in
theorem w_c14 : (Jvm.Cond.code ({ cls := "java/util/ArrayList", name := "grow", desc := "(I)[Ljava/lang/Object;" } : Jvm.MethodName) jdk_38_method_6_code (4 : Nat) (Option.some (Jvm.ClassFile.FieldType.array (Jvm.ClassFile.FieldType.object "java/lang/Object")))).before args0 about1 = true := code_word (m := ⟨14, 1⟩) (meth := k14m1) (c := k14c1) (by decide +kernel) rfl rfl rfl (by decide +kernel)
set_option maxRecDepth 65536 in
theorem w_c15 : (Jvm.Cond.code ({ cls := "java/lang/Math", name := "max", desc := "(II)I" } : Jvm.MethodName) jdk_29_method_65_code (2 : Nat) (Option.some Jvm.ClassFile.FieldType.int)).before args0 about1 = true := code_word (m := ⟨20, 1⟩) (meth := k20m1) (c := k20c1) (by decide +kernel) rfl rfl rfl (by decide +kernel)
set_option maxRecDepth 65536 in
theorem w_c16 : (Jvm.Cond.code ({ cls := "java/util/ArrayList", name := "size", desc := "()I" } : Jvm.MethodName) jdk_38_method_8_code (1 : Nat) (Option.some Jvm.ClassFile.FieldType.int)).before args0 about1 = true := code_word (m := ⟨14, 3⟩) (meth := k14m3) (c := k14c3) (by decide +kernel) rfl rfl rfl (by decide +kernel)
set_option maxRecDepth 65536 in
theorem w_c17 : (Jvm.Cond.code ({ cls := "com/example/graphwarden/graphwarden/partition/OrderedPartition$Vertex", name := "<init>", desc := "(Ljava/lang/String;)V" } : Jvm.MethodName) prog_29_method_1_code (2 : Nat) (Option.none : Option Jvm.ClassFile.FieldType)).before args0 about1 = true := code_word (m := ⟨21, 0⟩) (meth := k21m0) (c := k21c0) (by decide +kernel) rfl rfl rfl (by decide +kernel)
set_option maxRecDepth 65536 in
theorem w_c18 : (Jvm.Cond.code ({ cls := "java/util/ArrayList", name := "isEmpty", desc := "()Z" } : Jvm.MethodName) jdk_38_method_9_code (1 : Nat) (Option.some Jvm.ClassFile.FieldType.boolean)).before args0 about1 = true := code_word (m := ⟨14, 4⟩) (meth := k14m4) (c := k14c4) (by decide +kernel) rfl rfl rfl (by decide +kernel)
set_option maxRecDepth 65536 in
theorem w_c19 : (Jvm.Cond.code ({ cls := "com/example/graphwarden/graphwarden/partition/OrderedPartition", name := "link", desc := "(Lcom/example/graphwarden/graphwarden/partition/OrderedPartition$Vertex;Lcom/example/graphwarden/graphwarden/partition/OrderedPartition$Block;)V" } : Jvm.MethodName) prog_26_method_21_code (3 : Nat) (Option.none : Option Jvm.ClassFile.FieldType)).before args0 about1 = true := code_word (m := ⟨2, 6⟩) (meth := k2m6) (c := k2c6) (by decide +kernel) rfl rfl rfl (by decide +kernel)
set_option maxRecDepth 65536 in
theorem w_c20 : (Jvm.Cond.code ({ cls := "com/example/graphwarden/graphwarden/Outcome", name := "applied", desc := "()Lcom/example/graphwarden/graphwarden/Outcome;" } : Jvm.MethodName) prog_8_method_2_code (0 : Nat) (Option.some (Jvm.ClassFile.FieldType.object "com/example/graphwarden/graphwarden/Outcome"))).before args0 about1 = true := code_word (m := ⟨26, 0⟩) (meth := k26m0) (c := k26c0) (by decide +kernel) rfl rfl rfl (by decide +kernel)
set_option maxRecDepth 65536 in
theorem w_c21 : (Jvm.Cond.code ({ cls := "com/example/graphwarden/graphwarden/partition/OrderedPartition", name := "mark", desc := "(Ljava/util/List;)Ljava/util/List;" } : Jvm.MethodName) prog_26_method_25_code (4 : Nat) (Option.some (Jvm.ClassFile.FieldType.object "java/util/List"))).before args0 about1 = true := code_word (m := ⟨2, 9⟩) (meth := k2m9) (c := k2c9) (by decide +kernel) rfl rfl rfl (by decide +kernel)
set_option maxRecDepth 65536 in
theorem w_c22 : (Jvm.Cond.code ({ cls := "java/util/ArrayList", name := "iterator", desc := "()Ljava/util/Iterator;" } : Jvm.MethodName) jdk_38_method_55_code (1 : Nat) (Option.some (Jvm.ClassFile.FieldType.object "java/util/Iterator"))).before args0 about1 = true := code_word (m := ⟨14, 9⟩) (meth := k14m9) (c := k14c9) (by decide +kernel) rfl rfl rfl (by decide +kernel)
set_option maxRecDepth 65536 in
theorem w_c23 : (Jvm.Cond.code ({ cls := "java/util/ArrayList$Itr", name := "<init>", desc := "(Ljava/util/ArrayList;)V" } : Jvm.MethodName) jdk_49_method_1_code (2 : Nat) (Option.none : Option Jvm.ClassFile.FieldType)).before args0 about1 = true := code_word (m := ⟨28, 0⟩) (meth := k28m0) (c := k28c0) (by decide +kernel) rfl rfl rfl (by decide +kernel)
set_option maxRecDepth 65536 in
theorem w_c24 : (Jvm.Cond.code ({ cls := "java/util/ArrayList$Itr", name := "hasNext", desc := "()Z" } : Jvm.MethodName) jdk_49_method_2_code (1 : Nat) (Option.some Jvm.ClassFile.FieldType.boolean)).before args0 about1 = true := code_word (m := ⟨28, 1⟩) (meth := k28m1) (c := k28c1) (by decide +kernel) rfl rfl rfl (by decide +kernel)
set_option maxRecDepth 65536 in
theorem w_c25 : (Jvm.Cond.code ({ cls := "java/util/ArrayList$Itr", name := "next", desc := "()Ljava/lang/Object;" } : Jvm.MethodName) jdk_49_method_3_code (3 : Nat) (Option.some (Jvm.ClassFile.FieldType.object "java/lang/Object"))).before args0 about1 = true := code_word (m := ⟨28, 2⟩) (meth := k28m2) (c := k28c2) (by decide +kernel) rfl rfl rfl (by decide +kernel)
set_option maxRecDepth 65536 in
theorem w_c26 : (Jvm.Cond.code ({ cls := "java/util/ArrayList$Itr", name := "checkForComodification", desc := "()V" } : Jvm.MethodName) jdk_49_method_6_code (1 : Nat) (Option.none : Option Jvm.ClassFile.FieldType)).before args0 about1 = true := code_word (m := ⟨28, 3⟩) (meth := k28m3) (c := k28c3) (by decide +kernel) rfl rfl rfl (by decide +kernel)
set_option maxRecDepth 65536 in
theorem w_c27 : (Jvm.Cond.code ({ cls := "com/example/graphwarden/graphwarden/partition/OrderedPartition", name := "mark", desc := "(Lcom/example/graphwarden/graphwarden/partition/OrderedPartition$Vertex;Ljava/util/List;)V" } : Jvm.MethodName) prog_26_method_26_code (3 : Nat) (Option.none : Option Jvm.ClassFile.FieldType)).before args0 about1 = true := code_word (m := ⟨2, 10⟩) (meth := k2m10) (c := k2c10) (by decide +kernel) rfl rfl rfl (by decide +kernel)
set_option maxRecDepth 65536 in
theorem w_c28 : (Jvm.Cond.code ({ cls := "com/example/graphwarden/graphwarden/partition/OrderedPartition$Vertex", name := "block", desc := "()Lcom/example/graphwarden/graphwarden/partition/OrderedPartition$Block;" } : Jvm.MethodName) prog_29_method_4_code (1 : Nat) (Option.some (Jvm.ClassFile.FieldType.object "com/example/graphwarden/graphwarden/partition/OrderedPartition$Block"))).before args0 about1 = true := code_word (m := ⟨21, 2⟩) (meth := k21m2) (c := k21c2) (by decide +kernel) rfl rfl rfl (by decide +kernel)
set_option maxRecDepth 65536 in
theorem w_c29 : (Jvm.Cond.code ({ cls := "com/example/graphwarden/graphwarden/partition/OrderedPartition$Table", name := "get", desc := "(I)Ljava/lang/Object;" } : Jvm.MethodName) prog_28_method_3_code (2 : Nat) (Option.some (Jvm.ClassFile.FieldType.object "java/lang/Object"))).before args0 about1 = true := code_word (m := ⟨4, 2⟩) (meth := k4m2) (c := k4c2) (by decide +kernel) rfl rfl rfl (by decide +kernel)
set_option maxRecDepth 65536 in
theorem w_c30 : (Jvm.Cond.code ({ cls := "java/util/ArrayList", name := "get", desc := "(I)Ljava/lang/Object;" } : Jvm.MethodName) jdk_38_method_20_code (2 : Nat) (Option.some (Jvm.ClassFile.FieldType.object "java/lang/Object"))).before args0 about1 = true := code_word (m := ⟨14, 6⟩) (meth := k14m6) (c := k14c6) (by decide +kernel) rfl rfl rfl (by decide +kernel)
set_option maxRecDepth 65536 in
theorem w_c31 : (Jvm.Cond.code ({ cls := "java/util/Objects", name := "checkIndex", desc := "(II)I" } : Jvm.MethodName) jdk_31_method_17_code (2 : Nat) (Option.some Jvm.ClassFile.FieldType.int)).before args0 about1 = true := code_word (m := ⟨29, 1⟩) (meth := k29m1) (c := k29c1) (by decide +kernel) rfl rfl rfl (by decide +kernel)
set_option maxRecDepth 65536 in
theorem w_c32 : (Jvm.Cond.code ({ cls := "jdk/internal/util/Preconditions", name := "checkIndex", desc := "(IILjava/util/function/BiFunction;)I" } : Jvm.MethodName) jdk_41_method_11_code (3 : Nat) (Option.some Jvm.ClassFile.FieldType.int)).before args0 about1 = true := code_word (m := ⟨30, 1⟩) (meth := k30m1) (c := k30c1) (by decide +kernel) rfl rfl rfl (by decide +kernel)
set_option maxRecDepth 65536 in
theorem w_c33 : (Jvm.Cond.code ({ cls := "java/util/ArrayList", name := "elementData", desc := "(I)Ljava/lang/Object;" } : Jvm.MethodName) jdk_38_method_18_code (2 : Nat) (Option.some (Jvm.ClassFile.FieldType.object "java/lang/Object"))).before args0 about1 = true := code_word (m := ⟨14, 5⟩) (meth := k14m5) (c := k14c5) (by decide +kernel) rfl rfl rfl (by decide +kernel)
set_option maxRecDepth 65536 in
theorem w_c34 : (Jvm.Cond.code ({ cls := "com/example/graphwarden/graphwarden/partition/OrderedPartition", name := "move", desc := "(Lcom/example/graphwarden/graphwarden/partition/OrderedPartition$Vertex;Lcom/example/graphwarden/graphwarden/partition/OrderedPartition$Block;)V" } : Jvm.MethodName) prog_26_method_20_code (2 : Nat) (Option.none : Option Jvm.ClassFile.FieldType)).before args0 about1 = true := code_word (m := ⟨2, 5⟩) (meth := k2m5) (c := k2c5) (by decide +kernel) rfl rfl rfl (by decide +kernel)
set_option maxRecDepth 65536 in
theorem w_c35 : (Jvm.Cond.code ({ cls := "com/example/graphwarden/graphwarden/partition/OrderedPartition", name := "unlinkVertex", desc := "(Lcom/example/graphwarden/graphwarden/partition/OrderedPartition$Vertex;)V" } : Jvm.MethodName) prog_26_method_22_code (2 : Nat) (Option.none : Option Jvm.ClassFile.FieldType)).before args0 about1 = true := code_word (m := ⟨2, 7⟩) (meth := k2m7) (c := k2c7) (by decide +kernel) rfl rfl rfl (by decide +kernel)
set_option maxRecDepth 65536 in
theorem w_c36 : (Jvm.Cond.code ({ cls := "com/example/graphwarden/graphwarden/chain/ChainPartition", name := "insert", desc := "(Lcom/example/graphwarden/graphwarden/partition/OrderedPartition$Vertex;Ljava/util/List;)Lcom/example/graphwarden/graphwarden/Outcome;" } : Jvm.MethodName) prog_13_method_13_code (7 : Nat) (Option.some (Jvm.ClassFile.FieldType.object "com/example/graphwarden/graphwarden/Outcome"))).before args0 about1 = true := code_word (m := ⟨3, 3⟩) (meth := k3m3) (c := k3c3) (by decide +kernel) rfl rfl rfl (by decide +kernel)
set_option maxRecDepth 65536 in
theorem w_c37 : (Jvm.Cond.code ({ cls := "com/example/graphwarden/graphwarden/partition/OrderedPartition$Block", name := "kind", desc := "()Ljava/lang/Object;" } : Jvm.MethodName) prog_27_method_2_code (1 : Nat) (Option.some (Jvm.ClassFile.FieldType.object "java/lang/Object"))).before args0 about1 = true := code_word (m := ⟨19, 1⟩) (meth := k19m1) (c := k19c1) (by decide +kernel) rfl rfl rfl (by decide +kernel)
set_option maxRecDepth 65536 in
theorem w_c38 : (Jvm.Cond.code ({ cls := "com/example/graphwarden/graphwarden/chain/ChainPartition", name := "insertFacing", desc := "(Lcom/example/graphwarden/graphwarden/partition/OrderedPartition$Vertex;Lcom/example/graphwarden/graphwarden/chain/ChainPartition$Kind;Ljava/util/List;)Lcom/example/graphwarden/graphwarden/Outcome;" } : Jvm.MethodName) prog_13_method_14_code (11 : Nat) (Option.some (Jvm.ClassFile.FieldType.object "com/example/graphwarden/graphwarden/Outcome"))).before args0 about1 = true := code_word (m := ⟨3, 4⟩) (meth := k3m4) (c := k3c4) (by decide +kernel) rfl rfl rfl (by decide +kernel)
set_option maxRecDepth 65536 in
theorem w_c39 : (Jvm.Cond.code ({ cls := "com/example/graphwarden/graphwarden/partition/OrderedPartition", name := "first", desc := "()Lcom/example/graphwarden/graphwarden/partition/OrderedPartition$Block;" } : Jvm.MethodName) prog_26_method_13_code (1 : Nat) (Option.some (Jvm.ClassFile.FieldType.object "com/example/graphwarden/graphwarden/partition/OrderedPartition$Block"))).before args0 about1 = true := code_word (m := ⟨2, 1⟩) (meth := k2m1) (c := k2c1) (by decide +kernel) rfl rfl rfl (by decide +kernel)
set_option maxRecDepth 65536 in
theorem w_c40 : (Jvm.Cond.code ({ cls := "com/example/graphwarden/graphwarden/partition/OrderedPartition$Block", name := "marked", desc := "()I" } : Jvm.MethodName) prog_27_method_4_code (1 : Nat) (Option.some Jvm.ClassFile.FieldType.int)).before args0 about1 = true := code_word (m := ⟨19, 2⟩) (meth := k19m2) (c := k19c2) (by decide +kernel) rfl rfl rfl (by decide +kernel)
set_option maxRecDepth 65536 in
theorem w_c41 : (Jvm.Cond.code ({ cls := "com/example/graphwarden/graphwarden/chain/ChainPartition", name := "placeBeyond", desc := "(Lcom/example/graphwarden/graphwarden/partition/OrderedPartition$Vertex;Lcom/example/graphwarden/graphwarden/chain/ChainPartition$Kind;)V" } : Jvm.MethodName) prog_13_method_16_code (6 : Nat) (Option.none : Option Jvm.ClassFile.FieldType)).before args0 about1 = true := code_word (m := ⟨3, 6⟩) (meth := k3m6) (c := k3c6) (by decide +kernel) rfl rfl rfl (by decide +kernel)
set_option maxRecDepth 65536 in
theorem w_c42 : (Jvm.Cond.code ({ cls := "com/example/graphwarden/graphwarden/partition/OrderedPartition", name := "last", desc := "()Lcom/example/graphwarden/graphwarden/partition/OrderedPartition$Block;" } : Jvm.MethodName) prog_26_method_14_code (1 : Nat) (Option.some (Jvm.ClassFile.FieldType.object "com/example/graphwarden/graphwarden/partition/OrderedPartition$Block"))).before args0 about1 = true := code_word (m := ⟨2, 2⟩) (meth := k2m2) (c := k2c2) (by decide +kernel) rfl rfl rfl (by decide +kernel)
set_option maxRecDepth 65536 in
theorem w_c43 : (Jvm.Cond.code ({ cls := "com/example/graphwarden/graphwarden/partition/OrderedPartition", name := "insertAfter", desc := "(Lcom/example/graphwarden/graphwarden/partition/OrderedPartition$Block;Ljava/lang/Object;)Lcom/example/graphwarden/graphwarden/partition/OrderedPartition$Block;" } : Jvm.MethodName) prog_26_method_16_code (4 : Nat) (Option.some (Jvm.ClassFile.FieldType.object "com/example/graphwarden/graphwarden/partition/OrderedPartition$Block"))).before args0 about1 = true := code_word (m := ⟨2, 4⟩) (meth := k2m4) (c := k2c4) (by decide +kernel) rfl rfl rfl (by decide +kernel)
set_option maxRecDepth 65536 in
theorem w_c44 : (Jvm.Cond.code ({ cls := "com/example/graphwarden/graphwarden/partition/OrderedPartition$Block", name := "head", desc := "()Lcom/example/graphwarden/graphwarden/partition/OrderedPartition$Vertex;" } : Jvm.MethodName) prog_27_method_6_code (1 : Nat) (Option.some (Jvm.ClassFile.FieldType.object "com/example/graphwarden/graphwarden/partition/OrderedPartition$Vertex"))).before args0 about1 = true := code_word (m := ⟨19, 4⟩) (meth := k19m4) (c := k19c4) (by decide +kernel) rfl rfl rfl (by decide +kernel)
set_option maxRecDepth 65536 in
theorem w_c45 : (Jvm.Cond.code ({ cls := "com/example/graphwarden/graphwarden/Outcome", name := "kind", desc := "()Lcom/example/graphwarden/graphwarden/Outcome$Kind;" } : Jvm.MethodName) prog_8_method_8_code (1 : Nat) (Option.some (Jvm.ClassFile.FieldType.object "com/example/graphwarden/graphwarden/Outcome$Kind"))).before args0 about1 = true := code_word (m := ⟨26, 1⟩) (meth := k26m1) (c := k26c1) (by decide +kernel) rfl rfl rfl (by decide +kernel)
set_option maxRecDepth 65536 in
theorem w_c46 : (Jvm.Cond.code ({ cls := "com/example/graphwarden/graphwarden/partition/OrderedPartition", name := "changeDegree", desc := "(Lcom/example/graphwarden/graphwarden/partition/OrderedPartition$Vertex;I)V" } : Jvm.MethodName) prog_26_method_24_code (2 : Nat) (Option.none : Option Jvm.ClassFile.FieldType)).before args0 about1 = true := code_word (m := ⟨2, 8⟩) (meth := k2m8) (c := k2c8) (by decide +kernel) rfl rfl rfl (by decide +kernel)
set_option maxRecDepth 65536 in
theorem w_c47 : (Jvm.Cond.code ({ cls := "com/example/graphwarden/graphwarden/partition/OrderedPartition", name := "unmark", desc := "(Ljava/util/List;)V" } : Jvm.MethodName) prog_26_method_27_code (3 : Nat) (Option.none : Option Jvm.ClassFile.FieldType)).before args0 about1 = true := code_word (m := ⟨2, 11⟩) (meth := k2m11) (c := k2c11) (by decide +kernel) rfl rfl rfl (by decide +kernel)
set_option maxRecDepth 65536 in
theorem w_c48 : (Jvm.Cond.code ({ cls := "com/example/graphwarden/graphwarden/partition/OrderedPartition$Block", name := "full", desc := "()Z" } : Jvm.MethodName) prog_27_method_5_code (1 : Nat) (Option.some Jvm.ClassFile.FieldType.boolean)).before args0 about1 = true := code_word (m := ⟨19, 3⟩) (meth := k19m3) (c := k19c3) (by decide +kernel) rfl rfl rfl (by decide +kernel)
set_option maxRecDepth 65536 in
theorem w_c49 : (Jvm.Cond.code ({ cls := "com/example/graphwarden/graphwarden/chain/ChainPartition", name := "further", desc := "(Lcom/example/graphwarden/graphwarden/partition/OrderedPartition$Block;)Lcom/example/graphwarden/graphwarden/partition/OrderedPartition$Block;" } : Jvm.MethodName) prog_13_method_17_code (1 : Nat) (Option.some (Jvm.ClassFile.FieldType.object "com/example/graphwarden/graphwarden/partition/OrderedPartition$Block"))).before args0 about1 = true := code_word (m := ⟨3, 7⟩) (meth := k3m7) (c := k3c7) (by decide +kernel) rfl rfl rfl (by decide +kernel)
set_option maxRecDepth 65536 in
theorem w_c50 : (Jvm.Cond.code ({ cls := "com/example/graphwarden/graphwarden/partition/OrderedPartition$Block", name := "next", desc := "()Lcom/example/graphwarden/graphwarden/partition/OrderedPartition$Block;" } : Jvm.MethodName) prog_27_method_9_code (1 : Nat) (Option.some (Jvm.ClassFile.FieldType.object "com/example/graphwarden/graphwarden/partition/OrderedPartition$Block"))).before args0 about1 = true := code_word (m := ⟨19, 5⟩) (meth := k19m5) (c := k19c5) (by decide +kernel) rfl rfl rfl (by decide +kernel)
set_option maxRecDepth 65536 in
theorem w_c51 : (Jvm.Cond.code ({ cls := "com/example/graphwarden/graphwarden/chain/ChainPartition", name := "place", desc := "(Lcom/example/graphwarden/graphwarden/partition/OrderedPartition$Vertex;Lcom/example/graphwarden/graphwarden/partition/OrderedPartition$Block;)V" } : Jvm.MethodName) prog_13_method_15_code (7 : Nat) (Option.none : Option Jvm.ClassFile.FieldType)).before args0 about1 = true := code_word (m := ⟨3, 5⟩) (meth := k3m5) (c := k3c5) (by decide +kernel) rfl rfl rfl (by decide +kernel)
set_option maxRecDepth 65536 in
theorem w_c52 : (Jvm.Cond.code ({ cls := "com/example/graphwarden/graphwarden/chain/ChainPartition", name := "partner", desc := "(Lcom/example/graphwarden/graphwarden/partition/OrderedPartition$Block;)Lcom/example/graphwarden/graphwarden/partition/OrderedPartition$Block;" } : Jvm.MethodName) prog_13_method_18_code (1 : Nat) (Option.some (Jvm.ClassFile.FieldType.object "com/example/graphwarden/graphwarden/partition/OrderedPartition$Block"))).before args0 about1 = true := code_word (m := ⟨3, 8⟩) (meth := k3m8) (c := k3c8) (by decide +kernel) rfl rfl rfl (by decide +kernel)
set_option maxRecDepth 65536 in
theorem w_c53 : (Jvm.Cond.code ({ cls := "com/example/graphwarden/graphwarden/chain/ChainPartition", name := "batchWeight", desc := "(Lcom/example/graphwarden/graphwarden/partition/OrderedPartition$Vertex;ZI)I" } : Jvm.MethodName) prog_13_method_9_code (4 : Nat) (Option.some Jvm.ClassFile.FieldType.int)).before args0 about1 = true := code_word (m := ⟨3, 2⟩) (meth := k3m2) (c := k3c2) (by decide +kernel) rfl rfl rfl (by decide +kernel)
set_option maxRecDepth 65536 in
theorem w_c54 : (Jvm.Cond.code ({ cls := "com/example/graphwarden/graphwarden/partition/OrderedPartition$Vertex", name := "degree", desc := "()I" } : Jvm.MethodName) prog_29_method_3_code (1 : Nat) (Option.some Jvm.ClassFile.FieldType.int)).before args0 about1 = true := code_word (m := ⟨21, 1⟩) (meth := k21m1) (c := k21c1) (by decide +kernel) rfl rfl rfl (by decide +kernel)
def codes1 : List Jvm.Cond := [Jvm.Cond.code x code maxLocals ret, Jvm.Cond.code ({ cls := "com/example/graphwarden/graphwarden/chain/ChainPartition", name := "<init>", desc := "()V" } : Jvm.MethodName) prog_13_method_1_code (1 : Nat) (Option.none : Option Jvm.ClassFile.FieldType), Jvm.Cond.code ({ cls := "com/example/graphwarden/graphwarden/partition/OrderedPartition", name := "<init>", desc := "()V" } : Jvm.MethodName) prog_26_method_1_code (1 : Nat) (Option.none : Option Jvm.ClassFile.FieldType), Jvm.Cond.code ({ cls := "java/lang/Object", name := "<init>", desc := "()V" } : Jvm.MethodName) object_method_1_code (1 : Nat) (Option.none : Option Jvm.ClassFile.FieldType), Jvm.Cond.code ({ cls := "com/example/graphwarden/graphwarden/partition/OrderedPartition$Table", name := "<init>", desc := "()V" } : Jvm.MethodName) prog_28_method_1_code (1 : Nat) (Option.none : Option Jvm.ClassFile.FieldType), Jvm.Cond.code ({ cls := "java/util/ArrayList", name := "<init>", desc := "()V" } : Jvm.MethodName) jdk_38_method_2_code (1 : Nat) (Option.none : Option Jvm.ClassFile.FieldType), Jvm.Cond.code ({ cls := "java/util/AbstractList", name := "<init>", desc := "()V" } : Jvm.MethodName) jdk_39_method_1_code (1 : Nat) (Option.none : Option Jvm.ClassFile.FieldType), Jvm.Cond.code ({ cls := "java/util/AbstractCollection", name := "<init>", desc := "()V" } : Jvm.MethodName) jdk_22_method_1_code (1 : Nat) (Option.none : Option Jvm.ClassFile.FieldType), Jvm.Cond.code ({ cls := "com/example/graphwarden/graphwarden/partition/OrderedPartition", name := "detachedBlock", desc := "(Ljava/lang/Object;)Lcom/example/graphwarden/graphwarden/partition/OrderedPartition$Block;" } : Jvm.MethodName) prog_26_method_15_code (3 : Nat) (Option.some (Jvm.ClassFile.FieldType.object "com/example/graphwarden/graphwarden/partition/OrderedPartition$Block")), Jvm.Cond.code ({ cls := "com/example/graphwarden/graphwarden/partition/OrderedPartition$Block", name := "<init>", desc := "(Lcom/example/graphwarden/graphwarden/partition/OrderedPartition;Ljava/lang/Object;)V" } : Jvm.MethodName) prog_27_method_1_code (3 : Nat) (Option.none : Option Jvm.ClassFile.FieldType), Jvm.Cond.code ({ cls := "com/example/graphwarden/graphwarden/partition/OrderedPartition$Table", name := "add", desc := "(Ljava/lang/Object;)I" } : Jvm.MethodName) prog_28_method_2_code (3 : Nat) (Option.some Jvm.ClassFile.FieldType.int), Jvm.Cond.code ({ cls := "java/util/ArrayList", name := "add", desc := "(Ljava/lang/Object;)Z" } : Jvm.MethodName) jdk_38_method_25_code (2 : Nat) (Option.some Jvm.ClassFile.FieldType.boolean), Jvm.Cond.code ({ cls := "java/util/ArrayList", name := "add", desc := "(Ljava/lang/Object;[Ljava/lang/Object;I)V" } : Jvm.MethodName) jdk_38_method_24_code (4 : Nat) (Option.none : Option Jvm.ClassFile.FieldType), Jvm.Cond.code ({ cls := "java/util/ArrayList", name := "grow", desc := "()[Ljava/lang/Object;" } : Jvm.MethodName) jdk_38_method_7_code (1 : Nat) (Option.some (Jvm.ClassFile.FieldType.array (Jvm.ClassFile.FieldType.object "java/lang/Object"))), Jvm.Cond.code ({ cls := "java/util/ArrayList", name := "grow", desc := "(I)[Ljava/lang/Object;" } : Jvm.MethodName) jdk_38_method_6_code (4 : Nat) (Option.some (Jvm.ClassFile.FieldType.array (Jvm.ClassFile.FieldType.object "java/lang/Object"))), Jvm.Cond.code ({ cls := "java/lang/Math", name := "max", desc := "(II)I" } : Jvm.MethodName) jdk_29_method_65_code (2 : Nat) (Option.some Jvm.ClassFile.FieldType.int), Jvm.Cond.code ({ cls := "java/util/ArrayList", name := "size", desc := "()I" } : Jvm.MethodName) jdk_38_method_8_code (1 : Nat) (Option.some Jvm.ClassFile.FieldType.int), Jvm.Cond.code ({ cls := "com/example/graphwarden/graphwarden/partition/OrderedPartition$Vertex", name := "<init>", desc := "(Ljava/lang/String;)V" } : Jvm.MethodName) prog_29_method_1_code (2 : Nat) (Option.none : Option Jvm.ClassFile.FieldType), Jvm.Cond.code ({ cls := "java/util/ArrayList", name := "isEmpty", desc := "()Z" } : Jvm.MethodName) jdk_38_method_9_code (1 : Nat) (Option.some Jvm.ClassFile.FieldType.boolean), Jvm.Cond.code ({ cls := "com/example/graphwarden/graphwarden/partition/OrderedPartition", name := "link", desc := "(Lcom/example/graphwarden/graphwarden/partition/OrderedPartition$Vertex;Lcom/example/graphwarden/graphwarden/partition/OrderedPartition$Block;)V" } : Jvm.MethodName) prog_26_method_21_code (3 : Nat) (Option.none : Option Jvm.ClassFile.FieldType), Jvm.Cond.code ({ cls := "com/example/graphwarden/graphwarden/Outcome", name := "applied", desc := "()Lcom/example/graphwarden/graphwarden/Outcome;" } : Jvm.MethodName) prog_8_method_2_code (0 : Nat) (Option.some (Jvm.ClassFile.FieldType.object "com/example/graphwarden/graphwarden/Outcome")), Jvm.Cond.code ({ cls := "com/example/graphwarden/graphwarden/partition/OrderedPartition", name := "mark", desc := "(Ljava/util/List;)Ljava/util/List;" } : Jvm.MethodName) prog_26_method_25_code (4 : Nat) (Option.some (Jvm.ClassFile.FieldType.object "java/util/List")), Jvm.Cond.code ({ cls := "java/util/ArrayList", name := "iterator", desc := "()Ljava/util/Iterator;" } : Jvm.MethodName) jdk_38_method_55_code (1 : Nat) (Option.some (Jvm.ClassFile.FieldType.object "java/util/Iterator")), Jvm.Cond.code ({ cls := "java/util/ArrayList$Itr", name := "<init>", desc := "(Ljava/util/ArrayList;)V" } : Jvm.MethodName) jdk_49_method_1_code (2 : Nat) (Option.none : Option Jvm.ClassFile.FieldType), Jvm.Cond.code ({ cls := "java/util/ArrayList$Itr", name := "hasNext", desc := "()Z" } : Jvm.MethodName) jdk_49_method_2_code (1 : Nat) (Option.some Jvm.ClassFile.FieldType.boolean), Jvm.Cond.code ({ cls := "java/util/ArrayList$Itr", name := "next", desc := "()Ljava/lang/Object;" } : Jvm.MethodName) jdk_49_method_3_code (3 : Nat) (Option.some (Jvm.ClassFile.FieldType.object "java/lang/Object")), Jvm.Cond.code ({ cls := "java/util/ArrayList$Itr", name := "checkForComodification", desc := "()V" } : Jvm.MethodName) jdk_49_method_6_code (1 : Nat) (Option.none : Option Jvm.ClassFile.FieldType), Jvm.Cond.code ({ cls := "com/example/graphwarden/graphwarden/partition/OrderedPartition", name := "mark", desc := "(Lcom/example/graphwarden/graphwarden/partition/OrderedPartition$Vertex;Ljava/util/List;)V" } : Jvm.MethodName) prog_26_method_26_code (3 : Nat) (Option.none : Option Jvm.ClassFile.FieldType), Jvm.Cond.code ({ cls := "com/example/graphwarden/graphwarden/partition/OrderedPartition$Vertex", name := "block", desc := "()Lcom/example/graphwarden/graphwarden/partition/OrderedPartition$Block;" } : Jvm.MethodName) prog_29_method_4_code (1 : Nat) (Option.some (Jvm.ClassFile.FieldType.object "com/example/graphwarden/graphwarden/partition/OrderedPartition$Block")), Jvm.Cond.code ({ cls := "com/example/graphwarden/graphwarden/partition/OrderedPartition$Table", name := "get", desc := "(I)Ljava/lang/Object;" } : Jvm.MethodName) prog_28_method_3_code (2 : Nat) (Option.some (Jvm.ClassFile.FieldType.object "java/lang/Object")), Jvm.Cond.code ({ cls := "java/util/ArrayList", name := "get", desc := "(I)Ljava/lang/Object;" } : Jvm.MethodName) jdk_38_method_20_code (2 : Nat) (Option.some (Jvm.ClassFile.FieldType.object "java/lang/Object")), Jvm.Cond.code ({ cls := "java/util/Objects", name := "checkIndex", desc := "(II)I" } : Jvm.MethodName) jdk_31_method_17_code (2 : Nat) (Option.some Jvm.ClassFile.FieldType.int), Jvm.Cond.code ({ cls := "jdk/internal/util/Preconditions", name := "checkIndex", desc := "(IILjava/util/function/BiFunction;)I" } : Jvm.MethodName) jdk_41_method_11_code (3 : Nat) (Option.some Jvm.ClassFile.FieldType.int), Jvm.Cond.code ({ cls := "java/util/ArrayList", name := "elementData", desc := "(I)Ljava/lang/Object;" } : Jvm.MethodName) jdk_38_method_18_code (2 : Nat) (Option.some (Jvm.ClassFile.FieldType.object "java/lang/Object")), Jvm.Cond.code ({ cls := "com/example/graphwarden/graphwarden/partition/OrderedPartition", name := "move", desc := "(Lcom/example/graphwarden/graphwarden/partition/OrderedPartition$Vertex;Lcom/example/graphwarden/graphwarden/partition/OrderedPartition$Block;)V" } : Jvm.MethodName) prog_26_method_20_code (2 : Nat) (Option.none : Option Jvm.ClassFile.FieldType), Jvm.Cond.code ({ cls := "com/example/graphwarden/graphwarden/partition/OrderedPartition", name := "unlinkVertex", desc := "(Lcom/example/graphwarden/graphwarden/partition/OrderedPartition$Vertex;)V" } : Jvm.MethodName) prog_26_method_22_code (2 : Nat) (Option.none : Option Jvm.ClassFile.FieldType), Jvm.Cond.code ({ cls := "com/example/graphwarden/graphwarden/chain/ChainPartition", name := "insert", desc := "(Lcom/example/graphwarden/graphwarden/partition/OrderedPartition$Vertex;Ljava/util/List;)Lcom/example/graphwarden/graphwarden/Outcome;" } : Jvm.MethodName) prog_13_method_13_code (7 : Nat) (Option.some (Jvm.ClassFile.FieldType.object "com/example/graphwarden/graphwarden/Outcome")), Jvm.Cond.code ({ cls := "com/example/graphwarden/graphwarden/partition/OrderedPartition$Block", name := "kind", desc := "()Ljava/lang/Object;" } : Jvm.MethodName) prog_27_method_2_code (1 : Nat) (Option.some (Jvm.ClassFile.FieldType.object "java/lang/Object")), Jvm.Cond.code ({ cls := "com/example/graphwarden/graphwarden/chain/ChainPartition", name := "insertFacing", desc := "(Lcom/example/graphwarden/graphwarden/partition/OrderedPartition$Vertex;Lcom/example/graphwarden/graphwarden/chain/ChainPartition$Kind;Ljava/util/List;)Lcom/example/graphwarden/graphwarden/Outcome;" } : Jvm.MethodName) prog_13_method_14_code (11 : Nat) (Option.some (Jvm.ClassFile.FieldType.object "com/example/graphwarden/graphwarden/Outcome")), Jvm.Cond.code ({ cls := "com/example/graphwarden/graphwarden/partition/OrderedPartition", name := "first", desc := "()Lcom/example/graphwarden/graphwarden/partition/OrderedPartition$Block;" } : Jvm.MethodName) prog_26_method_13_code (1 : Nat) (Option.some (Jvm.ClassFile.FieldType.object "com/example/graphwarden/graphwarden/partition/OrderedPartition$Block")), Jvm.Cond.code ({ cls := "com/example/graphwarden/graphwarden/partition/OrderedPartition$Block", name := "marked", desc := "()I" } : Jvm.MethodName) prog_27_method_4_code (1 : Nat) (Option.some Jvm.ClassFile.FieldType.int), Jvm.Cond.code ({ cls := "com/example/graphwarden/graphwarden/chain/ChainPartition", name := "placeBeyond", desc := "(Lcom/example/graphwarden/graphwarden/partition/OrderedPartition$Vertex;Lcom/example/graphwarden/graphwarden/chain/ChainPartition$Kind;)V" } : Jvm.MethodName) prog_13_method_16_code (6 : Nat) (Option.none : Option Jvm.ClassFile.FieldType), Jvm.Cond.code ({ cls := "com/example/graphwarden/graphwarden/partition/OrderedPartition", name := "last", desc := "()Lcom/example/graphwarden/graphwarden/partition/OrderedPartition$Block;" } : Jvm.MethodName) prog_26_method_14_code (1 : Nat) (Option.some (Jvm.ClassFile.FieldType.object "com/example/graphwarden/graphwarden/partition/OrderedPartition$Block")), Jvm.Cond.code ({ cls := "com/example/graphwarden/graphwarden/partition/OrderedPartition", name := "insertAfter", desc := "(Lcom/example/graphwarden/graphwarden/partition/OrderedPartition$Block;Ljava/lang/Object;)Lcom/example/graphwarden/graphwarden/partition/OrderedPartition$Block;" } : Jvm.MethodName) prog_26_method_16_code (4 : Nat) (Option.some (Jvm.ClassFile.FieldType.object "com/example/graphwarden/graphwarden/partition/OrderedPartition$Block")), Jvm.Cond.code ({ cls := "com/example/graphwarden/graphwarden/partition/OrderedPartition$Block", name := "head", desc := "()Lcom/example/graphwarden/graphwarden/partition/OrderedPartition$Vertex;" } : Jvm.MethodName) prog_27_method_6_code (1 : Nat) (Option.some (Jvm.ClassFile.FieldType.object "com/example/graphwarden/graphwarden/partition/OrderedPartition$Vertex")), Jvm.Cond.code ({ cls := "com/example/graphwarden/graphwarden/Outcome", name := "kind", desc := "()Lcom/example/graphwarden/graphwarden/Outcome$Kind;" } : Jvm.MethodName) prog_8_method_8_code (1 : Nat) (Option.some (Jvm.ClassFile.FieldType.object "com/example/graphwarden/graphwarden/Outcome$Kind")), Jvm.Cond.code ({ cls := "com/example/graphwarden/graphwarden/partition/OrderedPartition", name := "changeDegree", desc := "(Lcom/example/graphwarden/graphwarden/partition/OrderedPartition$Vertex;I)V" } : Jvm.MethodName) prog_26_method_24_code (2 : Nat) (Option.none : Option Jvm.ClassFile.FieldType), Jvm.Cond.code ({ cls := "com/example/graphwarden/graphwarden/partition/OrderedPartition", name := "unmark", desc := "(Ljava/util/List;)V" } : Jvm.MethodName) prog_26_method_27_code (3 : Nat) (Option.none : Option Jvm.ClassFile.FieldType), Jvm.Cond.code ({ cls := "com/example/graphwarden/graphwarden/partition/OrderedPartition$Block", name := "full", desc := "()Z" } : Jvm.MethodName) prog_27_method_5_code (1 : Nat) (Option.some Jvm.ClassFile.FieldType.boolean), Jvm.Cond.code ({ cls := "com/example/graphwarden/graphwarden/chain/ChainPartition", name := "further", desc := "(Lcom/example/graphwarden/graphwarden/partition/OrderedPartition$Block;)Lcom/example/graphwarden/graphwarden/partition/OrderedPartition$Block;" } : Jvm.MethodName) prog_13_method_17_code (1 : Nat) (Option.some (Jvm.ClassFile.FieldType.object "com/example/graphwarden/graphwarden/partition/OrderedPartition$Block")), Jvm.Cond.code ({ cls := "com/example/graphwarden/graphwarden/partition/OrderedPartition$Block", name := "next", desc := "()Lcom/example/graphwarden/graphwarden/partition/OrderedPartition$Block;" } : Jvm.MethodName) prog_27_method_9_code (1 : Nat) (Option.some (Jvm.ClassFile.FieldType.object "com/example/graphwarden/graphwarden/partition/OrderedPartition$Block")), Jvm.Cond.code ({ cls := "com/example/graphwarden/graphwarden/chain/ChainPartition", name := "place", desc := "(Lcom/example/graphwarden/graphwarden/partition/OrderedPartition$Vertex;Lcom/example/graphwarden/graphwarden/partition/OrderedPartition$Block;)V" } : Jvm.MethodName) prog_13_method_15_code (7 : Nat) (Option.none : Option Jvm.ClassFile.FieldType), Jvm.Cond.code ({ cls := "com/example/graphwarden/graphwarden/chain/ChainPartition", name := "partner", desc := "(Lcom/example/graphwarden/graphwarden/partition/OrderedPartition$Block;)Lcom/example/graphwarden/graphwarden/partition/OrderedPartition$Block;" } : Jvm.MethodName) prog_13_method_18_code (1 : Nat) (Option.some (Jvm.ClassFile.FieldType.object "com/example/graphwarden/graphwarden/partition/OrderedPartition$Block")), Jvm.Cond.code ({ cls := "com/example/graphwarden/graphwarden/chain/ChainPartition", name := "batchWeight", desc := "(Lcom/example/graphwarden/graphwarden/partition/OrderedPartition$Vertex;ZI)I" } : Jvm.MethodName) prog_13_method_9_code (4 : Nat) (Option.some Jvm.ClassFile.FieldType.int), Jvm.Cond.code ({ cls := "com/example/graphwarden/graphwarden/partition/OrderedPartition$Vertex", name := "degree", desc := "()I" } : Jvm.MethodName) prog_29_method_3_code (1 : Nat) (Option.some Jvm.ClassFile.FieldType.int)]
set_option maxRecDepth 65536 in
theorem codes_eq : words1.filter isCode = codes1 := rfl
theorem w_codes : ∀ c ∈ words1.filter isCode, c.before args0 about1 = true := by
  rw [codes_eq]
  intro c hc
  simp only [codes1, List.mem_cons, List.not_mem_nil, or_false] at hc
  rcases hc with rfl | rfl | rfl | rfl | rfl | rfl | rfl | rfl | rfl | rfl | rfl | rfl | rfl | rfl | rfl | rfl | rfl | rfl | rfl | rfl | rfl | rfl | rfl | rfl | rfl | rfl | rfl | rfl | rfl | rfl | rfl | rfl | rfl | rfl | rfl | rfl | rfl | rfl | rfl | rfl | rfl | rfl | rfl | rfl | rfl | rfl | rfl | rfl | rfl | rfl | rfl | rfl | rfl | rfl | rfl
  · exact w_c0
  · exact w_c1
  · exact w_c2
  · exact w_c3
  · exact w_c4
  · exact w_c5
  · exact w_c6
  · exact w_c7
  · exact w_c8
  · exact w_c9
  · exact w_c10
  · exact w_c11
  · exact w_c12
  · exact w_c13
  · exact w_c14
  · exact w_c15
  · exact w_c16
  · exact w_c17
  · exact w_c18
  · exact w_c19
  · exact w_c20
  · exact w_c21
  · exact w_c22
  · exact w_c23
  · exact w_c24
  · exact w_c25
  · exact w_c26
  · exact w_c27
  · exact w_c28
  · exact w_c29
  · exact w_c30
  · exact w_c31
  · exact w_c32
  · exact w_c33
  · exact w_c34
  · exact w_c35
  · exact w_c36
  · exact w_c37
  · exact w_c38
  · exact w_c39
  · exact w_c40
  · exact w_c41
  · exact w_c42
  · exact w_c43
  · exact w_c44
  · exact w_c45
  · exact w_c46
  · exact w_c47
  · exact w_c48
  · exact w_c49
  · exact w_c50
  · exact w_c51
  · exact w_c52
  · exact w_c53
  · exact w_c54
set_option maxRecDepth 65536 in
theorem w_t1 : (words1.take 24).all (fun c => isCode c || c.before args0 about1) = true := by decide +kernel
set_option maxRecDepth 65536 in
theorem w_t2 : ((words1.drop 24).take 24).all (fun c => isCode c || c.before args0 about1) = true := by decide +kernel
set_option maxRecDepth 65536 in
theorem w_t3 : (((words1.drop 24).drop 24).take 24).all (fun c => isCode c || c.before args0 about1) = true := by decide +kernel
set_option maxRecDepth 65536 in
theorem w_t4 : ((((words1.drop 24).drop 24).drop 24).take 24).all (fun c => isCode c || c.before args0 about1) = true := by decide +kernel
set_option maxRecDepth 65536 in
theorem w_t5 : (((((words1.drop 24).drop 24).drop 24).drop 24).take 24).all (fun c => isCode c || c.before args0 about1) = true := by decide +kernel
set_option maxRecDepth 65536 in
theorem w_t6 : ((((((words1.drop 24).drop 24).drop 24).drop 24).drop 24).take 24).all (fun c => isCode c || c.before args0 about1) = true := by decide +kernel
set_option maxRecDepth 65536 in
theorem w_t7 : (((((((words1.drop 24).drop 24).drop 24).drop 24).drop 24).drop 24).take 24).all (fun c => isCode c || c.before args0 about1) = true := by decide +kernel
set_option maxRecDepth 65536 in
theorem w_t8 : ((((((((words1.drop 24).drop 24).drop 24).drop 24).drop 24).drop 24).drop 24).take 24).all (fun c => isCode c || c.before args0 about1) = true := by decide +kernel
set_option maxRecDepth 65536 in
theorem w_t9 : (((((((((words1.drop 24).drop 24).drop 24).drop 24).drop 24).drop 24).drop 24).drop 24).take 24).all (fun c => isCode c || c.before args0 about1) = true := by decide +kernel
set_option maxRecDepth 65536 in
theorem w_t10 : ((((((((((words1.drop 24).drop 24).drop 24).drop 24).drop 24).drop 24).drop 24).drop 24).drop 24).take 24).all (fun c => isCode c || c.before args0 about1) = true := by decide +kernel
set_option maxRecDepth 65536 in
theorem w_t11 : (((((((((((words1.drop 24).drop 24).drop 24).drop 24).drop 24).drop 24).drop 24).drop 24).drop 24).drop 24).take 24).all (fun c => isCode c || c.before args0 about1) = true := by decide +kernel
set_option maxRecDepth 65536 in
theorem w_t12 : ((((((((((((words1.drop 24).drop 24).drop 24).drop 24).drop 24).drop 24).drop 24).drop 24).drop 24).drop 24).drop 24).take 24).all (fun c => isCode c || c.before args0 about1) = true := by decide +kernel
set_option maxRecDepth 65536 in
theorem w_t13 : (((((((((((((words1.drop 24).drop 24).drop 24).drop 24).drop 24).drop 24).drop 24).drop 24).drop 24).drop 24).drop 24).drop 24).take 24).all (fun c => isCode c || c.before args0 about1) = true := by decide +kernel
set_option maxRecDepth 65536 in
theorem w_t14 : ((((((((((((((words1.drop 24).drop 24).drop 24).drop 24).drop 24).drop 24).drop 24).drop 24).drop 24).drop 24).drop 24).drop 24).drop 24).take 24).all (fun c => isCode c || c.before args0 about1) = true := by decide +kernel
set_option maxRecDepth 65536 in
theorem w_t15 : (((((((((((((((words1.drop 24).drop 24).drop 24).drop 24).drop 24).drop 24).drop 24).drop 24).drop 24).drop 24).drop 24).drop 24).drop 24).drop 24).take 24).all (fun c => isCode c || c.before args0 about1) = true := by decide +kernel
set_option maxRecDepth 65536 in
theorem w_t16 : ((((((((((((((((words1.drop 24).drop 24).drop 24).drop 24).drop 24).drop 24).drop 24).drop 24).drop 24).drop 24).drop 24).drop 24).drop 24).drop 24).drop 24).take 24).all (fun c => isCode c || c.before args0 about1) = true := by decide +kernel
set_option maxRecDepth 65536 in
theorem w_t17 : (((((((((((((((((words1.drop 24).drop 24).drop 24).drop 24).drop 24).drop 24).drop 24).drop 24).drop 24).drop 24).drop 24).drop 24).drop 24).drop 24).drop 24).drop 24).take 24).all (fun c => isCode c || c.before args0 about1) = true := by decide +kernel
set_option maxRecDepth 65536 in
theorem w_t18 : (((((((((((((((((words1.drop 24).drop 24).drop 24).drop 24).drop 24).drop 24).drop 24).drop 24).drop 24).drop 24).drop 24).drop 24).drop 24).drop 24).drop 24).drop 24).drop 24).all (fun c => isCode c || c.before args0 about1) = true := by decide +kernel
theorem w_tables : (allAtoms (Jvm.Cond.code x code maxLocals ret :: tables_1)).before args0 about1 = true := by
  rw [allAtoms_all]
  show words1.all (fun c => c.before args0 about1) = true
  refine all_split ?_ w_codes
  rw [← List.take_append_drop 24 words1, List.all_append, w_t1, ← List.take_append_drop 24 (words1.drop 24), List.all_append, w_t2, ← List.take_append_drop 24 ((words1.drop 24).drop 24), List.all_append, w_t3, ← List.take_append_drop 24 (((words1.drop 24).drop 24).drop 24), List.all_append, w_t4, ← List.take_append_drop 24 ((((words1.drop 24).drop 24).drop 24).drop 24), List.all_append, w_t5, ← List.take_append_drop 24 (((((words1.drop 24).drop 24).drop 24).drop 24).drop 24), List.all_append, w_t6, ← List.take_append_drop 24 ((((((words1.drop 24).drop 24).drop 24).drop 24).drop 24).drop 24), List.all_append, w_t7, ← List.take_append_drop 24 (((((((words1.drop 24).drop 24).drop 24).drop 24).drop 24).drop 24).drop 24), List.all_append, w_t8, ← List.take_append_drop 24 ((((((((words1.drop 24).drop 24).drop 24).drop 24).drop 24).drop 24).drop 24).drop 24), List.all_append, w_t9, ← List.take_append_drop 24 (((((((((words1.drop 24).drop 24).drop 24).drop 24).drop 24).drop 24).drop 24).drop 24).drop 24), List.all_append, w_t10, ← List.take_append_drop 24 ((((((((((words1.drop 24).drop 24).drop 24).drop 24).drop 24).drop 24).drop 24).drop 24).drop 24).drop 24), List.all_append, w_t11, ← List.take_append_drop 24 (((((((((((words1.drop 24).drop 24).drop 24).drop 24).drop 24).drop 24).drop 24).drop 24).drop 24).drop 24).drop 24), List.all_append, w_t12, ← List.take_append_drop 24 ((((((((((((words1.drop 24).drop 24).drop 24).drop 24).drop 24).drop 24).drop 24).drop 24).drop 24).drop 24).drop 24).drop 24), List.all_append, w_t13, ← List.take_append_drop 24 (((((((((((((words1.drop 24).drop 24).drop 24).drop 24).drop 24).drop 24).drop 24).drop 24).drop 24).drop 24).drop 24).drop 24).drop 24), List.all_append, w_t14, ← List.take_append_drop 24 ((((((((((((((words1.drop 24).drop 24).drop 24).drop 24).drop 24).drop 24).drop 24).drop 24).drop 24).drop 24).drop 24).drop 24).drop 24).drop 24), List.all_append, w_t15, ← List.take_append_drop 24 (((((((((((((((words1.drop 24).drop 24).drop 24).drop 24).drop 24).drop 24).drop 24).drop 24).drop 24).drop 24).drop 24).drop 24).drop 24).drop 24).drop 24), List.all_append, w_t16, ← List.take_append_drop 24 ((((((((((((((((words1.drop 24).drop 24).drop 24).drop 24).drop 24).drop 24).drop 24).drop 24).drop 24).drop 24).drop 24).drop 24).drop 24).drop 24).drop 24).drop 24), List.all_append, w_t17, w_t18]
  rfl
set_option maxRecDepth 65536 in
theorem w_rest : rest_1_c.before args0 about1 = true := by decide +kernel
set_option maxRecDepth 65536 in
theorem w_case : (Jvm.Cond.and given_1 narrow_1).before args0 about1 = true := by decide +kernel
theorem w_applies : (headSpec (Jvm.Cond.code x code maxLocals ret :: tables_1) room_1).applies x e0.platform about1 = true :=
  (Spec.applies_iff w_frames).mpr ⟨w_running, w_runnable, w_alone, w_named, w_hears, w_ripe, w_room, w_tables⟩
theorem atStart : AtStart classFile x code maxLocals ret World_1 tables_1 room_1 Calls_1 rest_1 Pre_1 launch0 p0 e0 about1 theMethod args0 below0 :=
  ⟨lists_1, trivial, launch0.admits_env _ _ _, launch0.least_env, fairChoices_fair.cas, fairChoices_fair.clock, w_frames, w_args, w_heap, w_applies, trivial, w_rest, w_case⟩
end start1
theorem witness_1 : WitnessClaimed_1 := ⟨start1.p0, start1.e0, start1.about1, start1.theMethod, start1.args0, start1.below0, start1.atStart⟩
end Jvm.Pilot.@@N@@
