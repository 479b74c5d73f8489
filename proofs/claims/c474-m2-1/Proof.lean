import JvmDerived
import JvmDerived.Pilot.@@N@@Statement
import JvmDerived.Pilot.@@N@@Code
set_option linter.unusedVariables false
set_option linter.unusedSimpArgs false
namespace Jvm.RoadKit
open Sem ClassFile Op Lib Jvm.Stand Jvm.Free Jvm.LawKit
section New
variable {p : Program} {l : Launch} {e : Env} {R : Room} {s : State} {m : MethodId} {args : Array Value} {below : List Frame} {meth : Method} {c : Code} {T : State} {locs : List Loc} {cells slots : Nat}
theorem retI (X : Stand p l e R s m args below meth c T locs cells slots) (hx : p.tables.exec = Jvm.exec) {pc : Nat} {Ls : Array Slot} {z : Int32} {rest : List Value} (hret : meth.sig.returnType = some .int) (hd : decode c.code pc = .ok (.ireturn, 1)) {fs : List Frame}
    (hl : ∀ (f : JFrame) (acts : List Action), f.method = m → f.locked = none → f.entered = [] → (doReturn e (T.setTop f) acts (some (.int z))).1 = T.setFrames fs) : Steps p.tables e below (T.setTop (mkF m pc Ls (.int z :: rest))) (T.setFrames fs) := by
  have hm' : T.vm.method? m = some meth := X.method'
  have hn : narrow .int (.int z) = .int z := rfl
  show Steps p.tables e below (T.setTop { method := m, pc := pc, locals := Ls, stack := _ :: rest, locked := none }) _
  jvm_step X.here [X.here.top, hx, hd, hm', hret, hn]
  first | (intro acts; rw [hl _ acts rfl rfl rfl]) | rw [hl _ _ rfl rfl rfl]
  exact Steps.refl _
/-- the run goes on from here to an end of which P holds -/
def Go (tb : Tables) (e : Env) (below : List Frame) (T : State) (g : JFrame) (P : State → Prop) : Prop := ∃ U, Steps tb e below (T.setTop g) U ∧ P U
theorem go1 {tb : Tables} {T' : State} {g g' : JFrame} {P : State → Prop} (k : ∀ t, Steps tb e below (T'.setTop g') t → Steps tb e below (T.setTop g) t) (h : Go tb e below T' g' P) : Go tb e below T g P := by
  obtain ⟨U, h1, h2⟩ := h; exact ⟨U, k U h1, h2⟩
theorem goT {tb : Tables} {T' : State} {g g' : JFrame} {P : State → Prop} (k : Steps tb e below (T.setTop g) (T'.setTop g')) (h : Go tb e below T' g' P) : Go tb e below T g P := by
  obtain ⟨U, h1, h2⟩ := h; exact ⟨U, k.trans h1, h2⟩
theorem stp {tb : Tables} {T' t : State} {g g' : JFrame} (k : ∀ t, Steps tb e below (T'.setTop g') t → Steps tb e below (T.setTop g) t) (h : Steps tb e below (T'.setTop g') t) : Steps tb e below (T.setTop g) t := k t h
theorem goB {tb : Tables} {ml : Nat} {g : JFrame} {Qp : Outcome → State → Prop} (q : entryFrame m args ml = g) (h : Go tb e below T g (fun U => ∃ o, U.status = .running ∧ Ended U below o ∧ Qp o U)) :
    ∃ s₂ o, Steps tb e below (T.setTop (entryFrame m args ml)) s₂ ∧ s₂.status = .running ∧ Ended s₂ below o ∧ Qp o s₂ := by
  obtain ⟨U, h1, o, h2, h3, h4⟩ := h; exact ⟨U, o, q ▸ h1, h2, h3, h4⟩
theorem goR (X : Stand p l e R s m args below meth c T locs cells slots) (hlocks : meth.locks = false) {v : Option Value} (hv : meth.sig.returnType = none → v = none) {g : JFrame} {kc ks : Nat} (Q : Option Value → Heap → List Loc → Prop)
    (k : ∀ fs, (∀ (f : JFrame) (acts : List Action), f.method = m → f.locked = none → f.entered = [] → (doReturn e (T.setTop f) acts v).1 = T.setFrames fs) → Steps p.tables e below (T.setTop g) (T.setFrames fs)) (hc : cells ≤ kc) (hs : slots ≤ ks) (hq : Q v T.heap locs) :
    Go p.tables e below T g (fun U => ∃ o, U.status = .running ∧ Ended U below o ∧ ∃ v L, o = .returned v ∧ Q v U.heap L ∧ FrameEnd s o U L kc ks) := by
  obtain ⟨fs, hr, hrun, hended, hW, hsame⟩ := X.leave hv hlocks
  exact ⟨_, k fs hr, _, hrun, hended, _, _, rfl, hq, ⟨_, rfl⟩, hW, hsame.mono hc hs⟩
theorem fitsG {C : String} {u : Value} (h : u.isRef = true) : fits (.object C) u = true := by rcases ref_cases h with rfl | ⟨a, rfl⟩ <;> rfl
theorem getFR (X : Stand p l e R s m args below meth c T locs cells slots) (hx : p.tables.exec = Jvm.exec) {Z : State} {a0 : Array Value} {h : Heap} (hZ : Z.Warmed39 s.vm) {own O n d : String} {index : Nat} (hown : s.vm.findClass own = some m.cls) (w : (Cond.fieldRef own index O n d).before a0 Z = true)
    (eT : T.heap = h) {a : Addr} {v : Value} (F : Fld Z h a O n d v) {g : JFrame} (hg : g.method = m) {rest : List Value} (hs : g.stack = .ref a :: rest) (hd : decode c.code g.pc = .ok (.getfield index, 3)) : ∃ T', Stand p l e R s m args below meth c T' locs cells slots ∧ T'.heap = h ∧ ∀ target, Steps p.tables e below (T'.setTop { g with pc := g.pc + 3, stack := v :: rest }) target → Steps p.tables e below (T.setTop g) target := by
  obtain ⟨cell, cf, k, i, f, h1, h2, h3, h4, -, -, h7⟩ := F
  have w1 : (Cond.fieldRef own index O n d).before a0 (Z.setVm T.vm) = true := Cond.fieldRef_warmed39 (wtrans hZ X.warmed) w
  have hc : (Z.setVm T.vm).vm.findClass own = some m.cls := by
    show T.vm.findClass own = _
    rw [X.warmed.alike.findClass]; exact hown
  obtain ⟨c', k', i', f', hi, hr⟩ := Cond.fieldRef_spec hc w1
  obtain ⟨k2, hi2, -⟩ := State.fieldFound?_setVm (s := Z) (wtrans hZ X.warmed).alike h2
  have hi3 : (Z.setVm T.vm).fieldFound? O n d = some (cf, k2, i, f) := hi2
  cases hi3.symm.trans hi
  refine ⟨T, X, eT, fun target hrest => ?_⟩
  subst hg
  jvm_step X.here [hx, hd, getfield.wp_ready (e := e) (s := T) (f := g) X.here.top hr h3 hs (show T.heap[a]? = some cell from by rw [eT]; exact h1) h4 h7]
  exact hrest
theorem selPriv {Z : State} {a0 : Array Value} {y : MethodName} {n : Nat} (hZ : Z.Warmed39 s.vm) (wi : (Cond.instantiable y.cls n).before a0 Z = true) (wp : (Cond.privateMethod y).before a0 Z = true) (wm : (Cond.instanceMethod y).before a0 Z = true) (hy : y.cls ≠ "java/lang/invoke/MethodHandle" ∧ y.cls ≠ "java/lang/invoke/VarHandle") : (Cond.selects y.cls y y).before args s = true := by
  obtain ⟨c, k, h1, h2, -, h4, -⟩ := Cond.instantiable_spec (show (Cond.instantiable y.cls n).before args s = true from mv hZ wi)
  have h5 : k.isInterface = false := by
    cases hq : k.isInterface
    · rfl
    · rw [hq] at h4; simp at h4
  exact selects_self_of_private h1 h2 h5 (Cond.privateMethod_at (mvP hZ wp (args := #[]))) (mv hZ wm) hy
theorem nsRoot {Z : State} {a0 : Array Value} {O K : String} {n : Nat} (w : (Cond.noSuperclass O).before a0 Z = true) (wk : (Cond.instantiable K n).before a0 Z = true) (hn : O ≠ K) : NS Z O K := by
  obtain ⟨c, k, h1, h2, h3, -⟩ := Cond.noSuperclass_spec w
  obtain ⟨t, kt, g1, -⟩ := Cond.instantiable_spec wk
  have ne := ids_ne h1 g1 hn
  exact ⟨c, t, h1, g1, fun fuel => by cases fuel <;> simp [Vm.isSubclassAux, ne, h2, h3]⟩
theorem nsNo {Z : State} {a0 : Array Value} {C S K : String} {n : Nat} (w : (Cond.superclass C S).before a0 Z = true) (wk : (Cond.instantiable K n).before a0 Z = true) (N : NS Z C K) (hn : C ≠ K) : ∃ c t, Z.vm.findClass C = some c ∧ Z.vm.findClass K = some t ∧ Z.vm.assignable c t = false := by
  obtain ⟨c, t, h0, g0, n3⟩ := N
  obtain ⟨pp, k, kp, -, h2, -, -, h5, -, -⟩ := Cond.superclass_spec h0 w
  obtain ⟨t', kt, g1, g2, g3, g4, -⟩ := Cond.instantiable_spec wk
  cases g0.symm.trans g1
  have ne := ids_ne h0 g0 hn
  have g5 : kt.isInterface = false := by
    cases hq : kt.isInterface
    · rfl
    · rw [hq] at g4; simp at g4
  refine ⟨c, t, h0, g0, ?_⟩
  show Z.vm.assignableAux (255 + 1) c t = false
  simp [Vm.assignableAux, ne, h2, g2, h5, g3, g5, Vm.isSubclass, n3]
theorem lenS {Z : State} {t : Term} {a : Addr} {cl : Cell} {n : Int32} {ty : FieldType} (ev : t.eval args Z none [] Z = some (.ref a)) (A : Arr Z Z.heap a cl ty) (h : (Term.length t).eval args Z none [] Z = some (.int n)) :
    cl.slots.size < 2 ^ 31 ∧ cl.slots.size.toInt32 = n ∧ cl.slots.size = n.toNatClampNeg ∧ ¬ n < 0 := by
  have ha := A.fin (Vm.Alike.refl _)
  by_cases q : cl.slots.size < 2 ^ 31
  · have e := len_f ev ha q
    rw [h] at e
    have e2 : n = cl.slots.size.toInt32 := by injection e with e; injection e
    have e3 := len_toInt q
    refine ⟨q, e2.symm, ?_, ?_⟩
    · rw [e2]; simp only [Int32.toNatClampNeg, e3]; rfl
    · rw [e2, Int32.lt_iff_toInt_lt, e3]; show ¬ (cl.slots.size : Int) < 0; omega
  · exfalso
    have q' : ¬ cl.slots.size < 2147483648 := q
    simp [Term.eval, ev, ha, q'] at h
end New
end Jvm.RoadKit
namespace Jvm.Pilot.@@N@@
open Jvm Jvm.ClassFile Sem Op Lib Jvm.Free Jvm.Stand Jvm.LawKit Jvm.RoadKit Bundle Jvm.Pilot.@@N@@.Jvm.D
theorem d18_0 : decode jdk_18_method_1_code 0 = .ok (.aload_n 0, 1) := by decide +kernel
theorem d18_1 : decode jdk_18_method_1_code 1 = .ok (.invokespecial 1, 3) := by decide +kernel
theorem d18_4 : decode jdk_18_method_1_code 4 = .ok (.return_, 1) := by decide +kernel
theorem pn_18 : plainName "java/lang/Number" = true := by first | (simp [plainName, overriddenIn]; done) | decide +kernel
theorem ef_18 (m : MethodId) (b1 : Addr) : entryFrame m #[(.ref b1)] 1 = mkF m 0 #[.val (.ref b1)] [] := by first | (simp [entryFrame, mkF, argsToLocals, Value.category]; done) | rfl
def Q18 (Z : State) (b1 : Addr) (h0 : Heap) (n0 : Nat) (v : Option Value) (h : Heap) (L : List Loc) : Prop := v = none ∧ Fr n0 L ∧ h = h0
set_option maxRecDepth 65536 in
set_option maxHeartbeats 40000000 in
theorem rm18 (l : Launch) (Z : State) (a0 : Array Value) (hw : ∀ d ∈ tables_1, d.before a0 Z = true) (ws : List Jvm.Cond) (b1 : Addr) (h0 : Heap) (n0 : Nat) (Z0 : n0 ≤ h0.size) :
    MetFree l (⟨"java/lang/Number", "<init>", "()V"⟩ : MethodName) (head1 (Jvm.Cond.code (⟨"java/lang/Number", "<init>", "()V"⟩ : MethodName) jdk_18_method_1_code 1 none :: ws) ({ frames := 1, cells := 0, slots := 0, locals := 12 } : Room)) (fun a U => a = #[(.ref b1)] ∧ Z.Warmed39 U.vm ∧ U.heap = h0) (fun _ _ _ _ _ => True) (fun _ U o U' => ∃ v L, o = .returned v ∧ Q18 Z b1 h0 n0 v U'.heap L ∧ FrameEnd U o U' L ({ frames := 1, cells := 0, slots := 0, locals := 12 } : Room).cells ({ frames := 1, cells := 0, slots := 0, locals := 12 } : Room).slots) := by
  refine MetFree.of_bodySF (plainFor_of_name pn_18) hisR ?_
  intro p e s m args below meth c s₁ Bd hml0 hP hK
  obtain ⟨rfl, hZ, hh⟩ := hP
  have hx := Bd.exec
  have hby := Bd.bytes
  have hml : c.maxLocals = 1 := hml0
  have hown : s.vm.findClass "java/lang/Number" = some m.cls := findClass_of_methodNamed Bd.named
  have hnm := (name_of_methodNamed Bd.named Bd.method).1
  have X0 : Stand p l e ({ frames := 1, cells := 0, slots := 0, locals := 12 } : Room) s m #[(.ref b1)] below meth c s₁ [] 0 0 := Stand.of_body Bd
  have e0 : s₁.heap = h0 := by rw [← hh, Bd.state]; rfl
  have N0 := Fr.nil n0
  refine goB (ef_18 m b1) ?_
  show Go p.tables e below s₁ (mkF m 0 #[.val (.ref b1)] []) _
  refine go1 (fun _ => XS.aloadN X0.here hx rfl (hb hby d18_0) rfl rfl) ?_
  show Go p.tables e below s₁ (mkF m 1 #[.val (.ref b1)] [(.ref b1)]) _
  obtain ⟨T1, X1, e1, st1⟩ := initO X0 hx hZ hown (hw _ (List.mem_of_getElem? (i := 124) rfl)) (hw _ (List.mem_of_getElem? (i := 14) rfl)) (hw _ (List.mem_of_getElem? (i := 15) rfl)) e0 (g := (mkF m 1 #[.val (.ref b1)] [(.ref b1)])) rfl (by rw [hml]; rfl) rfl (hb hby d18_1) (by decide) (W := 0) (by show 2 * 0 + _ ≤ _; exact Nat.le_of_eq rfl) (by decide)
  refine go1 st1 ?_
  show Go p.tables e below T1 (mkF m 4 #[.val (.ref b1)] []) _
  refine goR X1 (BodyLoose.notSynchronized Bd) (v := none) (fun _ => rfl) (Q18 Z b1 h0 n0) (fun fs hr => X1.returnOut hx Bd.returns (hb hby d18_4) hr) (by decide) (by decide) ?_
  show Q18 Z b1 h0 n0 _ T1.heap _
  rw [e1]
  exact ⟨rfl, N0, rfl⟩
theorem own_int (p : Int32) (h1 : ¬ p < (-128 : Int32)) (h2 : ¬ (127 : Int32) < p) : ¬ (p + (128 : Int32)) < 0 ∧ (p + (128 : Int32)) < (256 : Int32) := by
  have c1 := c_iadd p (128 : Int32)
  have r1 := rng32 (p + (128 : Int32))
  have k1 := mt Int32.lt_iff_toInt_lt.mpr h1
  have k2 := mt Int32.lt_iff_toInt_lt.mpr h2
  have l1 : (128 : Int32).toInt = 128 := by decide
  have l2 : (-128 : Int32).toInt = -128 := by decide
  have l3 : (127 : Int32).toInt = 127 := by decide
  have l4 : (256 : Int32).toInt = 256 := by decide
  have l5 : (0 : Int32).toInt = 0 := by decide
  rw [Int32.lt_iff_toInt_lt, Int32.lt_iff_toInt_lt]
  omega
theorem own_intb (p : Int32) : ((p + (128 : Int32)) - (128 : Int32)) = p := by
  have c1 := c_iadd p (128 : Int32)
  have c2 := c_isub (p + (128 : Int32)) (128 : Int32)
  have r1 := rng32 ((p + (128 : Int32)) - (128 : Int32))
  have r2 := rng32 p
  rw [← Int32.toInt_inj]
  omega
theorem d17_0 : decode jdk_33_method_23_code 0 = .ok (.aload_n 0, 1) := by decide +kernel
theorem d17_1 : decode jdk_33_method_23_code 1 = .ok (.invokespecial 202, 3) := by decide +kernel
theorem d17_4 : decode jdk_33_method_23_code 4 = .ok (.aload_n 0, 1) := by decide +kernel
theorem d17_5 : decode jdk_33_method_23_code 5 = .ok (.iload_n 1, 1) := by decide +kernel
theorem d17_6 : decode jdk_33_method_23_code 6 = .ok (.putfield 205, 3) := by decide +kernel
theorem d17_9 : decode jdk_33_method_23_code 9 = .ok (.return_, 1) := by decide +kernel
theorem pn_17 : plainName "java/lang/Integer" = true := by first | (simp [plainName, overriddenIn]; done) | decide +kernel
theorem pd17_0 : parseMethodDescriptor "()V" = some ⟨[], none⟩ := by decide +kernel
theorem ef_17 (m : MethodId) (b1 : Addr) (p1 : Int32) : entryFrame m #[(.ref b1), (.int p1)] 2 = mkF m 0 #[.val (.ref b1), .val (.int p1)] [] := by first | (simp [entryFrame, mkF, argsToLocals, Value.category]; done) | rfl
def Q17 (Z : State) (b1 : Addr) (p1 : Int32) (h0 : Heap) (n0 : Nat) (v : Option Value) (h : Heap) (L : List Loc) : Prop := v = none ∧ Fr n0 L ∧ Keep h0 h [b1] ∧ Exa Z h b1 "java/lang/Integer" ∧ Fld Z h b1 "java/lang/Integer" "value" "I" (.int p1)
set_option maxRecDepth 65536 in
set_option maxHeartbeats 40000000 in
theorem rm17 (l : Launch) (Z : State) (a0 : Array Value) (hw : ∀ d ∈ tables_1, d.before a0 Z = true) (ws : List Jvm.Cond) (b1 : Addr) (p1 : Int32) (h0 : Heap) (n0 : Nat) (Z0 : n0 ≤ h0.size) (F_value_b1 : Fld Z h0 b1 "java/lang/Integer" "value" "I" (.int (0 : Int32))) (E_b1 : Exa Z h0 b1 "java/lang/Integer") (g_b1 : n0 ≤ b1) :
    MetFree l (⟨"java/lang/Integer", "<init>", "(I)V"⟩ : MethodName) (head1 (Jvm.Cond.code (⟨"java/lang/Integer", "<init>", "(I)V"⟩ : MethodName) jdk_33_method_23_code 2 none :: ws) ({ frames := 2, cells := 0, slots := 0, locals := 24 } : Room)) (fun a U => a = #[(.ref b1), (.int p1)] ∧ Z.Warmed39 U.vm ∧ U.heap = h0) (fun _ _ _ _ _ => True) (fun _ U o U' => ∃ v L, o = .returned v ∧ Q17 Z b1 p1 h0 n0 v U'.heap L ∧ FrameEnd U o U' L ({ frames := 2, cells := 0, slots := 0, locals := 24 } : Room).cells ({ frames := 2, cells := 0, slots := 0, locals := 24 } : Room).slots) := by
  refine MetFree.of_bodySF (plainFor_of_name pn_17) hisR ?_
  intro p e s m args below meth c s₁ Bd hml0 hP hK
  obtain ⟨rfl, hZ, hh⟩ := hP
  have hx := Bd.exec
  have hby := Bd.bytes
  have hml : c.maxLocals = 2 := hml0
  have hown : s.vm.findClass "java/lang/Integer" = some m.cls := findClass_of_methodNamed Bd.named
  have hnm := (name_of_methodNamed Bd.named Bd.method).1
  have X0 : Stand p l e ({ frames := 2, cells := 0, slots := 0, locals := 24 } : Room) s m #[(.ref b1), (.int p1)] below meth c s₁ [] 0 0 := Stand.of_body Bd
  have e0 : s₁.heap = h0 := by rw [← hh, Bd.state]; rfl
  have N0 := Fr.nil n0
  refine goB (ef_17 m b1 p1) ?_
  show Go p.tables e below s₁ (mkF m 0 #[.val (.ref b1), .val (.int p1)] []) _
  refine go1 (fun _ => XS.aloadN X0.here hx rfl (hb hby d17_0) rfl rfl) ?_
  show Go p.tables e below s₁ (mkF m 1 #[.val (.ref b1), .val (.int p1)] [(.ref b1)]) _
  obtain ⟨_, _, ⟨T1, L1, k1, n1⟩, -, X1, ⟨Lc1, hQ1, l1, y1, z1⟩, st1⟩ := X0.specialBack hx (y := (⟨"java/lang/Number", "<init>", "()V"⟩ : MethodName)) rfl hown (mvT hZ (hw _ (List.mem_of_getElem? (i := 118) rfl))) (mvT hZ (hw _ (List.mem_of_getElem? (i := 119) rfl))) (mvT hZ (hw _ (List.mem_of_getElem? (i := 123) rfl))) (by decide) (backOf (W := 0) (rm18 l Z a0 hw [] b1 h0 n0 Z0 ) hZ (hw _ (List.mem_of_getElem? (i := 123) rfl)) (hw _ (List.mem_of_getElem? (i := 122) rfl)) (by decide) (by decide)) (g := (mkF m 1 #[.val (.ref b1), .val (.int p1)] [(.ref b1)])) rfl (by rw [hml]; rfl) (Steps.refl _) (a := b1) (argsL := []) (rest := []) (lenOf pd17_0 rfl) rfl (by show 2 * 0 + _ ≤ _; exact Nat.le_of_eq rfl) (hb hby d17_1) (fun _ _ => ⟨rfl, e0, (by decide : 0 + 0 ≤ _), (by decide : 0 + 0 ≤ _)⟩)
  dsimp only [Pt.U, Pt.locs, Pt.cells, Pt.slots] at X1 l1 y1 z1 st1 hQ1
  subst l1 y1 z1
  obtain ⟨rfl, N1q, e1⟩ := hQ1
  have N1 := Fr.app N0 N1q
  refine goT st1 ?_
  show Go p.tables e below T1 (mkF m 4 #[.val (.ref b1), .val (.int p1)] []) _
  refine go1 (fun _ => XS.aloadN X1.here hx rfl (hb hby d17_4) rfl rfl) ?_
  show Go p.tables e below T1 (mkF m 5 #[.val (.ref b1), .val (.int p1)] [(.ref b1)]) _
  refine go1 (fun _ => XS.iloadN X1.here hx rfl (hb hby d17_5) rfl) ?_
  show Go p.tables e below T1 (mkF m 6 #[.val (.ref b1), .val (.int p1)] [(.int p1), (.ref b1)]) _
  obtain ⟨T2, h2, X2, e2, W2, st2⟩ := putF X1 hx hZ hown (host := "") (Or.inl (hw _ (List.mem_of_getElem? (i := 125) rfl))) Via.refl e1 F_value_b1 E_b1 (Or.inr ⟨(hw _ (List.mem_of_getElem? (i := 126) rfl)), rfl, hnm⟩) (hw _ (List.mem_of_getElem? (i := 113) rfl)) (ty := .int) (by decide) rfl rfl (g := (mkF m 6 #[.val (.ref b1), .val (.int p1)] [(.int p1), (.ref b1)])) rfl rfl (hb hby d17_6)
  refine go1 st2 ?_
  have Fw2 := F_value_b1.same W2
  have N2 := Fr.snoc X2 N1 g_b1
  show Go p.tables e below T2 (mkF m 9 #[.val (.ref b1), .val (.int p1)] []) _
  refine goR X2 (BodyLoose.notSynchronized Bd) (v := none) (fun _ => rfl) (Q17 Z b1 p1 h0 n0) (fun fs hr => X2.returnOut hx Bd.returns (hb hby d17_9) hr) (by decide) (by decide) ?_
  show Q17 Z b1 p1 h0 n0 _ T2.heap _
  rw [e2]
  exact ⟨rfl, N2, ((Keep.refl h0 [b1]).wr W2 (Or.inl (List.mem_of_getElem? (i := 0) rfl))), (E_b1.wr W2), Fw2⟩
theorem d1_0 : decode jdk_33_method_22_code 0 = .ok (.iload_n 0, 1) := by decide +kernel
theorem d1_1 : decode jdk_33_method_22_code 1 = .ok (.bipush (-128), 2) := by decide +kernel
theorem d1_3 : decode jdk_33_method_22_code 3 = .ok (.if_icmp .lt 20, 3) := by decide +kernel
theorem d1_6 : decode jdk_33_method_22_code 6 = .ok (.iload_n 0, 1) := by decide +kernel
theorem d1_7 : decode jdk_33_method_22_code 7 = .ok (.getstatic 191, 3) := by decide +kernel
theorem d1_10 : decode jdk_33_method_22_code 10 = .ok (.if_icmp .gt 13, 3) := by decide +kernel
theorem d1_13 : decode jdk_33_method_22_code 13 = .ok (.getstatic 195, 3) := by decide +kernel
theorem d1_16 : decode jdk_33_method_22_code 16 = .ok (.iload_n 0, 1) := by decide +kernel
theorem d1_17 : decode jdk_33_method_22_code 17 = .ok (.sipush 128, 3) := by decide +kernel
theorem d1_20 : decode jdk_33_method_22_code 20 = .ok (.iadd, 1) := by decide +kernel
theorem d1_21 : decode jdk_33_method_22_code 21 = .ok (.aaload, 1) := by decide +kernel
theorem d1_22 : decode jdk_33_method_22_code 22 = .ok (.areturn, 1) := by decide +kernel
theorem d1_23 : decode jdk_33_method_22_code 23 = .ok (.new 1, 3) := by decide +kernel
theorem d1_26 : decode jdk_33_method_22_code 26 = .ok (.dup, 1) := by decide +kernel
theorem d1_27 : decode jdk_33_method_22_code 27 = .ok (.iload_n 0, 1) := by decide +kernel
theorem d1_28 : decode jdk_33_method_22_code 28 = .ok (.invokespecial 199, 3) := by decide +kernel
theorem d1_31 : decode jdk_33_method_22_code 31 = .ok (.areturn, 1) := by decide +kernel
theorem pn_1 : plainName "java/lang/Integer" = true := by first | (simp [plainName, overriddenIn]; done) | decide +kernel
theorem pd1_0 : parseMethodDescriptor "(I)V" = some ⟨[.int], none⟩ := by decide +kernel
theorem ef_1 (m : MethodId) (p1 : Int32) : entryFrame m #[(.int p1)] 1 = mkF m 0 #[.val (.int p1)] [] := by first | (simp [entryFrame, mkF, argsToLocals, Value.category]; done) | rfl
def Q1 (Z : State) (p1 : Int32) (a_cache : Addr) (h0 : Heap) (n0 : Nat) (v : Option Value) (h : Heap) (L : List Loc) : Prop := ∃ (b : Addr), v = some (.ref b) ∧ Fr n0 L ∧ Keep h0 h [] ∧ Exa Z h b "java/lang/Integer" ∧ Fld Z h b "java/lang/Integer" "value" "I" (.int p1)
set_option maxRecDepth 65536 in
set_option maxHeartbeats 40000000 in
theorem rm1 (l : Launch) (Z : State) (a0 : Array Value) (hw : ∀ d ∈ tables_1, d.before a0 Z = true) (ws : List Jvm.Cond) (p1 : Int32) (a_cache : Addr) (h0 : Heap) (n0 : Nat) (Z0 : n0 ≤ h0.size) (O0 : Old Z n0 h0) (S_high : Sta Z Z.heap "java/lang/Integer$IntegerCache" "high" "I" (.int (127 : Int32))) (S_cache : Sta Z Z.heap "java/lang/Integer$IntegerCache" "cache" "[Ljava/lang/Integer;" (.ref a_cache)) (BX_a_cache : ∃ cB : Cell, Bxs Z a_cache cB "java/lang/Integer" "I" (256 : Int32) (fun j => .int (j - (128 : Int32)))) :
    MetFree l (⟨"java/lang/Integer", "valueOf", "(I)Ljava/lang/Integer;"⟩ : MethodName) (head1 (Jvm.Cond.code (⟨"java/lang/Integer", "valueOf", "(I)Ljava/lang/Integer;"⟩ : MethodName) jdk_33_method_22_code 1 (some (.object "java/lang/Integer")) :: ws) ({ frames := 3, cells := 1, slots := 1, locals := 38 } : Room)) (fun a U => a = #[(.int p1)] ∧ Z.Warmed39 U.vm ∧ U.heap = h0) (fun _ _ _ _ _ => True) (fun _ U o U' => ∃ v L, o = .returned v ∧ Q1 Z p1 a_cache h0 n0 v U'.heap L ∧ FrameEnd U o U' L ({ frames := 3, cells := 1, slots := 1, locals := 38 } : Room).cells ({ frames := 3, cells := 1, slots := 1, locals := 38 } : Room).slots) := by
  refine MetFree.of_bodySF (plainFor_of_name pn_1) hisR ?_
  intro p e s m args below meth c s₁ Bd hml0 hP hK
  obtain ⟨rfl, hZ, hh⟩ := hP
  have hx := Bd.exec
  have hby := Bd.bytes
  have hml : c.maxLocals = 1 := hml0
  have hown : s.vm.findClass "java/lang/Integer" = some m.cls := findClass_of_methodNamed Bd.named
  have hnm := (name_of_methodNamed Bd.named Bd.method).1
  have X0 : Stand p l e ({ frames := 3, cells := 1, slots := 1, locals := 38 } : Room) s m #[(.int p1)] below meth c s₁ [] 0 0 := Stand.of_body Bd
  have e0 : s₁.heap = h0 := by rw [← hh, Bd.state]; rfl
  have N0 := Fr.nil n0
  refine goB (ef_1 m p1) ?_
  show Go p.tables e below s₁ (mkF m 0 #[.val (.int p1)] []) _
  refine go1 (fun _ => XS.iloadN X0.here hx rfl (hb hby d1_0) rfl) ?_
  show Go p.tables e below s₁ (mkF m 1 #[.val (.int p1)] [(.int p1)]) _
  refine go1 (fun _ => XS.bipush X0.here hx rfl (hb hby d1_1)) ?_
  show Go p.tables e below s₁ (mkF m 3 #[.val (.int p1)] [(.int (-128 : Int32)), (.int p1)]) _
  by_cases hc1 : p1 < (-128 : Int32)
  · skip
    refine go1 (fun _ => XS.icmpYes X0.here hx rfl (pc0 := 3) (pc' := 23) rfl (hb hby d1_3) rfl (tlt hc1).1 (by decide) (by decide)) ?_
    show Go p.tables e below s₁ (mkF m 23 #[.val (.int p1)] []) _
    obtain ⟨T2, h2, X2, e2, E2, A2, D2, -, st2⟩ := newO X0 hx hZ hown (hw _ (List.mem_of_getElem? (i := 112) rfl)) (hw _ (List.mem_of_getElem? (i := 113) rfl)) (hw _ (List.mem_of_getElem? (i := 5) rfl)) e0 (g := (mkF m 23 #[.val (.int p1)] [])) rfl (hb hby d1_23) (by decide) (by decide)
    obtain ⟨b2, g2⟩ : ∃ z, z = h0.size := ⟨_, rfl⟩
    rw [← g2] at A2 D2 st2
    have g_b2 : n0 ≤ b2 := Nat.le_trans Z0 (Nat.le_of_eq g2.symm)
    have F_value_b2 : Fld Z h2 b2 "java/lang/Integer" "value" "I" (.int (0 : Int32)) := D2 (Or.inr (hw _ (List.mem_of_getElem? (i := 126) rfl))) (ty := .int) (by decide)
    refine go1 st2 ?_
    show Go p.tables e below T2 (mkF m 26 #[.val (.int p1)] [(.ref b2)]) _
    refine go1 (fun _ => XS.dup X2.here hx rfl (hb hby d1_26) rfl rfl) ?_
    show Go p.tables e below T2 (mkF m 27 #[.val (.int p1)] [(.ref b2), (.ref b2)]) _
    refine go1 (fun _ => XS.iloadN X2.here hx rfl (hb hby d1_27) rfl) ?_
    show Go p.tables e below T2 (mkF m 28 #[.val (.int p1)] [(.int p1), (.ref b2), (.ref b2)]) _
    obtain ⟨_, _, ⟨T3, L3, k3, n3⟩, -, X3, ⟨Lc3, hQ3, l3, y3, z3⟩, st3⟩ := X2.specialBack hx (y := (⟨"java/lang/Integer", "<init>", "(I)V"⟩ : MethodName)) rfl hown (mvT hZ (hw _ (List.mem_of_getElem? (i := 114) rfl))) (mvT hZ (hw _ (List.mem_of_getElem? (i := 115) rfl))) (mvT hZ (hw _ (List.mem_of_getElem? (i := 117) rfl))) (by decide) (backOf (W := 1) (rm17 l Z a0 hw [] b2 p1 h2 n0 (Nat.le_trans Z0 E2.1) F_value_b2 A2 g_b2) hZ (hw _ (List.mem_of_getElem? (i := 117) rfl)) (hw _ (List.mem_of_getElem? (i := 5) rfl)) (by decide) (by decide)) (g := (mkF m 28 #[.val (.int p1)] [(.int p1), (.ref b2), (.ref b2)])) rfl (by rw [hml]; rfl) (Steps.refl _) (a := b2) (argsL := [(.int p1)]) (rest := [(.ref b2)]) (lenOf pd1_0 rfl) rfl (by show 2 * 0 + _ ≤ _; exact Nat.le_of_eq rfl) (hb hby d1_28) (fun _ _ => ⟨rfl, e2, (by decide : 1 + 0 ≤ _), (by decide : 1 + 0 ≤ _)⟩)
    dsimp only [Pt.U, Pt.locs, Pt.cells, Pt.slots] at X3 l3 y3 z3 st3 hQ3
    subst l3 y3 z3
    obtain ⟨rfl, N3q, K3, G3_0, G3_1⟩ := hQ3
    have N3 := Fr.app N0 N3q
    refine goT st3 ?_
    show Go p.tables e below T3 (mkF m 31 #[.val (.int p1)] [(.ref b2)]) _
    refine goR X3 (BodyLoose.notSynchronized Bd) (v := (some (.ref b2))) (fun h => by rw [Bd.returns] at h; cases h) (Q1 Z p1 a_cache h0 n0) (fun fs hr => retOut X3 hx (t := (.object "java/lang/Integer")) (w := (.ref b2)) Bd.returns rfl (Or.inr (Or.inr (Or.inr (Or.inr ⟨rfl, rfl, rfl⟩)))) (hb hby d1_31) hr) (by decide) (by decide) ?_
    show Q1 Z p1 a_cache h0 n0 _ T3.heap _
    exact ⟨b2, rfl, N3, (((Keep.refl h0 []).ext E2).trans K3 (allS (Or.inr (Nat.le_trans (Nat.le_refl h0.size) (Nat.le_of_eq g2.symm))) all0)), G3_0, G3_1⟩
  · skip
    refine go1 (fun _ => XS.icmpNo X0.here hx rfl (hb hby d1_3) rfl (flt hc1).1) ?_
    show Go p.tables e below s₁ (mkF m 6 #[.val (.int p1)] []) _
    refine go1 (fun _ => XS.iloadN X0.here hx rfl (hb hby d1_6) rfl) ?_
    show Go p.tables e below s₁ (mkF m 7 #[.val (.int p1)] [(.int p1)]) _
    obtain ⟨T4, X4, e4, st4⟩ := getS2 X0 hx hZ hown (host := "") (Or.inl (hw _ (List.mem_of_getElem? (i := 7) rfl))) Via.refl e0 (S_high.ext O0.2) (g := (mkF m 7 #[.val (.int p1)] [(.int p1)])) rfl (hb hby d1_7)
    refine go1 st4 ?_
    show Go p.tables e below T4 (mkF m 10 #[.val (.int p1)] [(.int (127 : Int32)), (.int p1)]) _
    by_cases hc5 : (127 : Int32) < p1
    · skip
      refine go1 (fun _ => XS.icmpYes X4.here hx rfl (pc0 := 10) (pc' := 23) rfl (hb hby d1_10) rfl (tlt hc5).2.2.1 (by decide) (by decide)) ?_
      show Go p.tables e below T4 (mkF m 23 #[.val (.int p1)] []) _
      obtain ⟨T6, h6, X6, e6, E6, A6, D6, -, st6⟩ := newO X4 hx hZ hown (hw _ (List.mem_of_getElem? (i := 112) rfl)) (hw _ (List.mem_of_getElem? (i := 113) rfl)) (hw _ (List.mem_of_getElem? (i := 5) rfl)) e4 (g := (mkF m 23 #[.val (.int p1)] [])) rfl (hb hby d1_23) (by decide) (by decide)
      obtain ⟨b6, g6⟩ : ∃ z, z = h0.size := ⟨_, rfl⟩
      rw [← g6] at A6 D6 st6
      have g_b6 : n0 ≤ b6 := Nat.le_trans Z0 (Nat.le_of_eq g6.symm)
      have F_value_b6 : Fld Z h6 b6 "java/lang/Integer" "value" "I" (.int (0 : Int32)) := D6 (Or.inr (hw _ (List.mem_of_getElem? (i := 126) rfl))) (ty := .int) (by decide)
      refine go1 st6 ?_
      show Go p.tables e below T6 (mkF m 26 #[.val (.int p1)] [(.ref b6)]) _
      refine go1 (fun _ => XS.dup X6.here hx rfl (hb hby d1_26) rfl rfl) ?_
      show Go p.tables e below T6 (mkF m 27 #[.val (.int p1)] [(.ref b6), (.ref b6)]) _
      refine go1 (fun _ => XS.iloadN X6.here hx rfl (hb hby d1_27) rfl) ?_
      show Go p.tables e below T6 (mkF m 28 #[.val (.int p1)] [(.int p1), (.ref b6), (.ref b6)]) _
      obtain ⟨_, _, ⟨T7, L7, k7, n7⟩, -, X7, ⟨Lc7, hQ7, l7, y7, z7⟩, st7⟩ := X6.specialBack hx (y := (⟨"java/lang/Integer", "<init>", "(I)V"⟩ : MethodName)) rfl hown (mvT hZ (hw _ (List.mem_of_getElem? (i := 114) rfl))) (mvT hZ (hw _ (List.mem_of_getElem? (i := 115) rfl))) (mvT hZ (hw _ (List.mem_of_getElem? (i := 117) rfl))) (by decide) (backOf (W := 1) (rm17 l Z a0 hw [] b6 p1 h6 n0 (Nat.le_trans Z0 E6.1) F_value_b6 A6 g_b6) hZ (hw _ (List.mem_of_getElem? (i := 117) rfl)) (hw _ (List.mem_of_getElem? (i := 5) rfl)) (by decide) (by decide)) (g := (mkF m 28 #[.val (.int p1)] [(.int p1), (.ref b6), (.ref b6)])) rfl (by rw [hml]; rfl) (Steps.refl _) (a := b6) (argsL := [(.int p1)]) (rest := [(.ref b6)]) (lenOf pd1_0 rfl) rfl (by show 2 * 0 + _ ≤ _; exact Nat.le_of_eq rfl) (hb hby d1_28) (fun _ _ => ⟨rfl, e6, (by decide : 1 + 0 ≤ _), (by decide : 1 + 0 ≤ _)⟩)
      dsimp only [Pt.U, Pt.locs, Pt.cells, Pt.slots] at X7 l7 y7 z7 st7 hQ7
      subst l7 y7 z7
      obtain ⟨rfl, N7q, K7, G7_0, G7_1⟩ := hQ7
      have N7 := Fr.app N0 N7q
      refine goT st7 ?_
      show Go p.tables e below T7 (mkF m 31 #[.val (.int p1)] [(.ref b6)]) _
      refine goR X7 (BodyLoose.notSynchronized Bd) (v := (some (.ref b6))) (fun h => by rw [Bd.returns] at h; cases h) (Q1 Z p1 a_cache h0 n0) (fun fs hr => retOut X7 hx (t := (.object "java/lang/Integer")) (w := (.ref b6)) Bd.returns rfl (Or.inr (Or.inr (Or.inr (Or.inr ⟨rfl, rfl, rfl⟩)))) (hb hby d1_31) hr) (by decide) (by decide) ?_
      show Q1 Z p1 a_cache h0 n0 _ T7.heap _
      exact ⟨b6, rfl, N7, (((Keep.refl h0 []).ext E6).trans K7 (allS (Or.inr (Nat.le_trans (Nat.le_refl h0.size) (Nat.le_of_eq g6.symm))) all0)), G7_0, G7_1⟩
    · skip
      refine go1 (fun _ => XS.icmpNo X4.here hx rfl (hb hby d1_10) rfl (flt hc5).2.2.1) ?_
      show Go p.tables e below T4 (mkF m 13 #[.val (.int p1)] []) _
      obtain ⟨T8, X8, e8, st8⟩ := getS2 X4 hx hZ hown (host := "") (Or.inl (hw _ (List.mem_of_getElem? (i := 9) rfl))) Via.refl e4 (S_cache.ext O0.2) (g := (mkF m 13 #[.val (.int p1)] [])) rfl (hb hby d1_13)
      refine go1 st8 ?_
      show Go p.tables e below T8 (mkF m 16 #[.val (.int p1)] [(.ref a_cache)]) _
      refine go1 (fun _ => XS.iloadN X8.here hx rfl (hb hby d1_16) rfl) ?_
      show Go p.tables e below T8 (mkF m 17 #[.val (.int p1)] [(.int p1), (.ref a_cache)]) _
      refine go1 (fun _ => XS.sipush X8.here hx rfl (hb hby d1_17)) ?_
      show Go p.tables e below T8 (mkF m 20 #[.val (.int p1)] [(.int (128 : Int32)), (.int p1), (.ref a_cache)]) _
      refine go1 (fun _ => XS.iadd X8.here hx rfl (hb hby d1_20) rfl) ?_
      show Go p.tables e below T8 (mkF m 21 #[.val (.int p1)] [(.int (p1 + (128 : Int32))), (.ref a_cache)]) _
      have vo9 := BX_a_cache
      obtain ⟨cB9, BB9⟩ := vo9
      have hin9 := inb_of BB9.2.1 (own_int p1 hc1 hc5)
      obtain ⟨bx9, hat9, EB9, FB9⟩ := BB9.2.2.2 (p1 + (128 : Int32)) hin9
      have FC9 : Fld Z Z.heap bx9 "java/lang/Integer" "value" "I" (.int p1) := by
        have q := own_intb p1
        have r : Fld Z Z.heap bx9 "java/lang/Integer" "value" "I" (.int ((p1 + (128 : Int32)) - (128 : Int32))) := FB9
        rw [q] at r
        exact r
      refine go1 (X8.aaload hx (j := (p1 + (128 : Int32))) (v := .ref bx9) (by rw [e8]; exact (BB9.1.ext O0.2).1) (State.isArrayOf_alike hZ.alike BB9.1.2.1) rfl BB9.1.2.2 hin9 hat9 (g := (mkF m 21 #[.val (.int p1)] [(.int (p1 + (128 : Int32))), (.ref a_cache)])) rfl rfl (hb hby d1_21)) ?_
      show Go p.tables e below T8 (mkF m 22 #[.val (.int p1)] [(.ref bx9)]) _
      refine goR X8 (BodyLoose.notSynchronized Bd) (v := (some (.ref bx9))) (fun h => by rw [Bd.returns] at h; cases h) (Q1 Z p1 a_cache h0 n0) (fun fs hr => retOut X8 hx (t := (.object "java/lang/Integer")) (w := (.ref bx9)) Bd.returns rfl (Or.inr (Or.inr (Or.inr (Or.inr ⟨rfl, rfl, rfl⟩)))) (hb hby d1_22) hr) (by decide) (by decide) ?_
      show Q1 Z p1 a_cache h0 n0 _ T8.heap _
      rw [e8]
      exact ⟨bx9, rfl, N0, (Keep.refl h0 []), (EB9.ext O0.2), (FC9.ext O0.2)⟩
theorem d2_0 : decode prog_7_method_1_code 0 = .ok (.aload_n 0, 1) := by decide +kernel
theorem d2_1 : decode prog_7_method_1_code 1 = .ok (.invokespecial 1, 3) := by decide +kernel
theorem d2_4 : decode prog_7_method_1_code 4 = .ok (.aload_n 0, 1) := by decide +kernel
theorem d2_5 : decode prog_7_method_1_code 5 = .ok (.aload_n 1, 1) := by decide +kernel
theorem d2_6 : decode prog_7_method_1_code 6 = .ok (.putfield 7, 3) := by decide +kernel
theorem d2_9 : decode prog_7_method_1_code 9 = .ok (.aload_n 0, 1) := by decide +kernel
theorem d2_10 : decode prog_7_method_1_code 10 = .ok (.aload_n 2, 1) := by decide +kernel
theorem d2_11 : decode prog_7_method_1_code 11 = .ok (.putfield 13, 3) := by decide +kernel
theorem d2_14 : decode prog_7_method_1_code 14 = .ok (.aload_n 0, 1) := by decide +kernel
theorem d2_15 : decode prog_7_method_1_code 15 = .ok (.iconst 1, 1) := by decide +kernel
theorem d2_16 : decode prog_7_method_1_code 16 = .ok (.putfield 16, 3) := by decide +kernel
theorem d2_19 : decode prog_7_method_1_code 19 = .ok (.return_, 1) := by decide +kernel
theorem pn_2a : plainName "com/example/carmine/carmine/Node" = true := by first | (simp [plainName, overriddenIn]; done) | decide +kernel
theorem ef_2a (m : MethodId) (b1 : Addr) (k1 : Addr) (v1 : Addr) : entryFrame m #[(.ref b1), (.ref k1), (.ref v1)] 3 = mkF m 0 #[.val (.ref b1), .val (.ref k1), .val (.ref v1)] [] := by first | (simp [entryFrame, mkF, argsToLocals, Value.category]; done) | rfl
def Q2a (Z : State) (b1 : Addr) (k1 : Addr) (v1 : Addr) (h0 : Heap) (n0 : Nat) (v : Option Value) (h : Heap) (L : List Loc) : Prop := v = none ∧ Fr n0 L ∧ Keep h0 h [b1] ∧ Exa Z h b1 "com/example/carmine/carmine/Node" ∧ Fld Z h b1 "com/example/carmine/carmine/Node" "left" "Lcom/example/carmine/carmine/Node;" .null ∧ Fld Z h b1 "com/example/carmine/carmine/Node" "right" "Lcom/example/carmine/carmine/Node;" .null ∧ Fld Z h b1 "com/example/carmine/carmine/Node" "sizeAndColours" "I" (.int (1 : Int32))
set_option maxRecDepth 65536 in
set_option maxHeartbeats 40000000 in
theorem rm2a (l : Launch) (Z : State) (a0 : Array Value) (hw : ∀ d ∈ tables_1, d.before a0 Z = true) (ws : List Jvm.Cond) (b1 : Addr) (k1 : Addr) (v1 : Addr) (h0 : Heap) (n0 : Nat) (Z0 : n0 ≤ h0.size) (F_key_b1 : Fld Z h0 b1 "com/example/carmine/carmine/Node" "key" "Ljava/lang/Object;" .null) (F_value_b1 : Fld Z h0 b1 "com/example/carmine/carmine/Node" "value" "Ljava/lang/Object;" .null) (F_left_b1 : Fld Z h0 b1 "com/example/carmine/carmine/Node" "left" "Lcom/example/carmine/carmine/Node;" .null) (F_right_b1 : Fld Z h0 b1 "com/example/carmine/carmine/Node" "right" "Lcom/example/carmine/carmine/Node;" .null) (F_sizeAndColours_b1 : Fld Z h0 b1 "com/example/carmine/carmine/Node" "sizeAndColours" "I" (.int (0 : Int32))) (E_b1 : Exa Z h0 b1 "com/example/carmine/carmine/Node") (g_b1 : n0 ≤ b1) :
    MetFree l (⟨"com/example/carmine/carmine/Node", "<init>", "(Ljava/lang/Object;Ljava/lang/Object;)V"⟩ : MethodName) (head1 (Jvm.Cond.code (⟨"com/example/carmine/carmine/Node", "<init>", "(Ljava/lang/Object;Ljava/lang/Object;)V"⟩ : MethodName) prog_7_method_1_code 3 none :: ws) ({ frames := 1, cells := 0, slots := 0, locals := 12 } : Room)) (fun a U => a = #[(.ref b1), (.ref k1), (.ref v1)] ∧ Z.Warmed39 U.vm ∧ U.heap = h0) (fun _ _ _ _ _ => True) (fun _ U o U' => ∃ v L, o = .returned v ∧ Q2a Z b1 k1 v1 h0 n0 v U'.heap L ∧ FrameEnd U o U' L ({ frames := 1, cells := 0, slots := 0, locals := 12 } : Room).cells ({ frames := 1, cells := 0, slots := 0, locals := 12 } : Room).slots) := by
  refine MetFree.of_bodySF (plainFor_of_name pn_2a) hisR ?_
  intro p e s m args below meth c s₁ Bd hml0 hP hK
  obtain ⟨rfl, hZ, hh⟩ := hP
  have hx := Bd.exec
  have hby := Bd.bytes
  have hml : c.maxLocals = 3 := hml0
  have hown : s.vm.findClass "com/example/carmine/carmine/Node" = some m.cls := findClass_of_methodNamed Bd.named
  have hnm := (name_of_methodNamed Bd.named Bd.method).1
  have X0 : Stand p l e ({ frames := 1, cells := 0, slots := 0, locals := 12 } : Room) s m #[(.ref b1), (.ref k1), (.ref v1)] below meth c s₁ [] 0 0 := Stand.of_body Bd
  have e0 : s₁.heap = h0 := by rw [← hh, Bd.state]; rfl
  have N0 := Fr.nil n0
  refine goB (ef_2a m b1 k1 v1) ?_
  show Go p.tables e below s₁ (mkF m 0 #[.val (.ref b1), .val (.ref k1), .val (.ref v1)] []) _
  refine go1 (fun _ => XS.aloadN X0.here hx rfl (hb hby d2_0) rfl rfl) ?_
  show Go p.tables e below s₁ (mkF m 1 #[.val (.ref b1), .val (.ref k1), .val (.ref v1)] [(.ref b1)]) _
  obtain ⟨T1, X1, e1, st1⟩ := initO X0 hx hZ hown (hw _ (List.mem_of_getElem? (i := 13) rfl)) (hw _ (List.mem_of_getElem? (i := 14) rfl)) (hw _ (List.mem_of_getElem? (i := 15) rfl)) e0 (g := (mkF m 1 #[.val (.ref b1), .val (.ref k1), .val (.ref v1)] [(.ref b1)])) rfl (by rw [hml]; rfl) rfl (hb hby d2_1) (by decide) (W := 0) (by show 2 * 0 + _ ≤ _; exact Nat.le_of_eq rfl) (by decide)
  refine go1 st1 ?_
  show Go p.tables e below T1 (mkF m 4 #[.val (.ref b1), .val (.ref k1), .val (.ref v1)] []) _
  refine go1 (fun _ => XS.aloadN X1.here hx rfl (hb hby d2_4) rfl rfl) ?_
  show Go p.tables e below T1 (mkF m 5 #[.val (.ref b1), .val (.ref k1), .val (.ref v1)] [(.ref b1)]) _
  refine go1 (fun _ => XS.aloadN X1.here hx rfl (hb hby d2_5) rfl rfl) ?_
  show Go p.tables e below T1 (mkF m 6 #[.val (.ref b1), .val (.ref k1), .val (.ref v1)] [(.ref k1), (.ref b1)]) _
  obtain ⟨T2, h2, X2, e2, W2, st2⟩ := putF X1 hx hZ hown (host := "") (Or.inl (hw _ (List.mem_of_getElem? (i := 16) rfl))) Via.refl e1 F_key_b1 E_b1 (Or.inl (hw _ (List.mem_of_getElem? (i := 17) rfl))) (hw _ (List.mem_of_getElem? (i := 1) rfl)) (ty := (.object "java/lang/Object")) (by decide) rfl rfl (g := (mkF m 6 #[.val (.ref b1), .val (.ref k1), .val (.ref v1)] [(.ref k1), (.ref b1)])) rfl rfl (hb hby d2_6)
  refine go1 st2 ?_
  have Fw2 := F_key_b1.same W2
  have N2 := Fr.snoc X2 N0 g_b1
  show Go p.tables e below T2 (mkF m 9 #[.val (.ref b1), .val (.ref k1), .val (.ref v1)] []) _
  refine go1 (fun _ => XS.aloadN X2.here hx rfl (hb hby d2_9) rfl rfl) ?_
  show Go p.tables e below T2 (mkF m 10 #[.val (.ref b1), .val (.ref k1), .val (.ref v1)] [(.ref b1)]) _
  refine go1 (fun _ => XS.aloadN X2.here hx rfl (hb hby d2_10) rfl rfl) ?_
  show Go p.tables e below T2 (mkF m 11 #[.val (.ref b1), .val (.ref k1), .val (.ref v1)] [(.ref v1), (.ref b1)]) _
  obtain ⟨T3, h3, X3, e3, W3, st3⟩ := putF X2 hx hZ hown (host := "") (Or.inl (hw _ (List.mem_of_getElem? (i := 18) rfl))) Via.refl e2 (F_value_b1.other W2 (Or.inr (slot_ne (Or.inl (hw _ (List.mem_of_getElem? (i := 19) rfl))) (Or.inl (hw _ (List.mem_of_getElem? (i := 17) rfl))) (by decide) (t := (.object "java/lang/Object")) (t' := (.object "java/lang/Object")) (by decide) (by decide)))) (E_b1.wr W2) (Or.inl (hw _ (List.mem_of_getElem? (i := 19) rfl))) (hw _ (List.mem_of_getElem? (i := 1) rfl)) (ty := (.object "java/lang/Object")) (by decide) rfl rfl (g := (mkF m 11 #[.val (.ref b1), .val (.ref k1), .val (.ref v1)] [(.ref v1), (.ref b1)])) rfl rfl (hb hby d2_11)
  refine go1 st3 ?_
  have Fw3 := (F_value_b1.other W2 (Or.inr (slot_ne (Or.inl (hw _ (List.mem_of_getElem? (i := 19) rfl))) (Or.inl (hw _ (List.mem_of_getElem? (i := 17) rfl))) (by decide) (t := (.object "java/lang/Object")) (t' := (.object "java/lang/Object")) (by decide) (by decide)))).same W3
  have N3 := Fr.snoc X3 N2 g_b1
  show Go p.tables e below T3 (mkF m 14 #[.val (.ref b1), .val (.ref k1), .val (.ref v1)] []) _
  refine go1 (fun _ => XS.aloadN X3.here hx rfl (hb hby d2_14) rfl rfl) ?_
  show Go p.tables e below T3 (mkF m 15 #[.val (.ref b1), .val (.ref k1), .val (.ref v1)] [(.ref b1)]) _
  refine go1 (fun _ => XS.iconst X3.here hx rfl (hb hby d2_15)) ?_
  show Go p.tables e below T3 (mkF m 16 #[.val (.ref b1), .val (.ref k1), .val (.ref v1)] [(.int (1 : Int32)), (.ref b1)]) _
  obtain ⟨T4, h4, X4, e4, W4, st4⟩ := putF X3 hx hZ hown (host := "") (Or.inl (hw _ (List.mem_of_getElem? (i := 20) rfl))) Via.refl e3 ((F_sizeAndColours_b1.other W2 (Or.inr (slot_ne (Or.inl (hw _ (List.mem_of_getElem? (i := 21) rfl))) (Or.inl (hw _ (List.mem_of_getElem? (i := 17) rfl))) (by decide) (t := .int) (t' := (.object "java/lang/Object")) (by decide) (by decide)))).other W3 (Or.inr (slot_ne (Or.inl (hw _ (List.mem_of_getElem? (i := 21) rfl))) (Or.inl (hw _ (List.mem_of_getElem? (i := 19) rfl))) (by decide) (t := .int) (t' := (.object "java/lang/Object")) (by decide) (by decide)))) ((E_b1.wr W2).wr W3) (Or.inl (hw _ (List.mem_of_getElem? (i := 21) rfl))) (hw _ (List.mem_of_getElem? (i := 1) rfl)) (ty := .int) (by decide) rfl rfl (g := (mkF m 16 #[.val (.ref b1), .val (.ref k1), .val (.ref v1)] [(.int (1 : Int32)), (.ref b1)])) rfl rfl (hb hby d2_16)
  refine go1 st4 ?_
  have Fw4 := ((F_sizeAndColours_b1.other W2 (Or.inr (slot_ne (Or.inl (hw _ (List.mem_of_getElem? (i := 21) rfl))) (Or.inl (hw _ (List.mem_of_getElem? (i := 17) rfl))) (by decide) (t := .int) (t' := (.object "java/lang/Object")) (by decide) (by decide)))).other W3 (Or.inr (slot_ne (Or.inl (hw _ (List.mem_of_getElem? (i := 21) rfl))) (Or.inl (hw _ (List.mem_of_getElem? (i := 19) rfl))) (by decide) (t := .int) (t' := (.object "java/lang/Object")) (by decide) (by decide)))).same W4
  have N4 := Fr.snoc X4 N3 g_b1
  show Go p.tables e below T4 (mkF m 19 #[.val (.ref b1), .val (.ref k1), .val (.ref v1)] []) _
  refine goR X4 (BodyLoose.notSynchronized Bd) (v := none) (fun _ => rfl) (Q2a Z b1 k1 v1 h0 n0) (fun fs hr => X4.returnOut hx Bd.returns (hb hby d2_19) hr) (by decide) (by decide) ?_
  show Q2a Z b1 k1 v1 h0 n0 _ T4.heap _
  rw [e4]
  exact ⟨rfl, N4, ((((Keep.refl h0 [b1]).wr W2 (Or.inl (List.mem_of_getElem? (i := 0) rfl))).wr W3 (Or.inl (List.mem_of_getElem? (i := 0) rfl))).wr W4 (Or.inl (List.mem_of_getElem? (i := 0) rfl))), (((E_b1.wr W2).wr W3).wr W4), (((F_left_b1.other W2 (Or.inr (slot_ne (Or.inl (hw _ (List.mem_of_getElem? (i := 109) rfl))) (Or.inl (hw _ (List.mem_of_getElem? (i := 17) rfl))) (by decide) (t := (.object "com/example/carmine/carmine/Node")) (t' := (.object "java/lang/Object")) (by decide) (by decide)))).other W3 (Or.inr (slot_ne (Or.inl (hw _ (List.mem_of_getElem? (i := 109) rfl))) (Or.inl (hw _ (List.mem_of_getElem? (i := 19) rfl))) (by decide) (t := (.object "com/example/carmine/carmine/Node")) (t' := (.object "java/lang/Object")) (by decide) (by decide)))).other W4 (Or.inr (slot_ne (Or.inl (hw _ (List.mem_of_getElem? (i := 109) rfl))) (Or.inl (hw _ (List.mem_of_getElem? (i := 21) rfl))) (by decide) (t := (.object "com/example/carmine/carmine/Node")) (t' := .int) (by decide) (by decide)))), (((F_right_b1.other W2 (Or.inr (slot_ne (Or.inl (hw _ (List.mem_of_getElem? (i := 27) rfl))) (Or.inl (hw _ (List.mem_of_getElem? (i := 17) rfl))) (by decide) (t := (.object "com/example/carmine/carmine/Node")) (t' := (.object "java/lang/Object")) (by decide) (by decide)))).other W3 (Or.inr (slot_ne (Or.inl (hw _ (List.mem_of_getElem? (i := 27) rfl))) (Or.inl (hw _ (List.mem_of_getElem? (i := 19) rfl))) (by decide) (t := (.object "com/example/carmine/carmine/Node")) (t' := (.object "java/lang/Object")) (by decide) (by decide)))).other W4 (Or.inr (slot_ne (Or.inl (hw _ (List.mem_of_getElem? (i := 27) rfl))) (Or.inl (hw _ (List.mem_of_getElem? (i := 21) rfl))) (by decide) (t := (.object "com/example/carmine/carmine/Node")) (t' := .int) (by decide) (by decide)))), Fw4⟩
theorem pn_2b : plainName "com/example/carmine/carmine/Node" = true := by first | (simp [plainName, overriddenIn]; done) | decide +kernel
theorem ef_2b (m : MethodId) (b1 : Addr) (k1 : Addr) : entryFrame m #[(.ref b1), (.ref k1), .null] 3 = mkF m 0 #[.val (.ref b1), .val (.ref k1), .val .null] [] := by first | (simp [entryFrame, mkF, argsToLocals, Value.category]; done) | rfl
def Q2b (Z : State) (b1 : Addr) (k1 : Addr) (h0 : Heap) (n0 : Nat) (v : Option Value) (h : Heap) (L : List Loc) : Prop := v = none ∧ Fr n0 L ∧ Keep h0 h [b1] ∧ Exa Z h b1 "com/example/carmine/carmine/Node" ∧ Fld Z h b1 "com/example/carmine/carmine/Node" "left" "Lcom/example/carmine/carmine/Node;" .null ∧ Fld Z h b1 "com/example/carmine/carmine/Node" "right" "Lcom/example/carmine/carmine/Node;" .null ∧ Fld Z h b1 "com/example/carmine/carmine/Node" "sizeAndColours" "I" (.int (1 : Int32))
set_option maxRecDepth 65536 in
set_option maxHeartbeats 40000000 in
theorem rm2b (l : Launch) (Z : State) (a0 : Array Value) (hw : ∀ d ∈ tables_1, d.before a0 Z = true) (ws : List Jvm.Cond) (b1 : Addr) (k1 : Addr) (h0 : Heap) (n0 : Nat) (Z0 : n0 ≤ h0.size) (F_key_b1 : Fld Z h0 b1 "com/example/carmine/carmine/Node" "key" "Ljava/lang/Object;" .null) (F_value_b1 : Fld Z h0 b1 "com/example/carmine/carmine/Node" "value" "Ljava/lang/Object;" .null) (F_left_b1 : Fld Z h0 b1 "com/example/carmine/carmine/Node" "left" "Lcom/example/carmine/carmine/Node;" .null) (F_right_b1 : Fld Z h0 b1 "com/example/carmine/carmine/Node" "right" "Lcom/example/carmine/carmine/Node;" .null) (F_sizeAndColours_b1 : Fld Z h0 b1 "com/example/carmine/carmine/Node" "sizeAndColours" "I" (.int (0 : Int32))) (E_b1 : Exa Z h0 b1 "com/example/carmine/carmine/Node") (g_b1 : n0 ≤ b1) :
    MetFree l (⟨"com/example/carmine/carmine/Node", "<init>", "(Ljava/lang/Object;Ljava/lang/Object;)V"⟩ : MethodName) (head1 (Jvm.Cond.code (⟨"com/example/carmine/carmine/Node", "<init>", "(Ljava/lang/Object;Ljava/lang/Object;)V"⟩ : MethodName) prog_7_method_1_code 3 none :: ws) ({ frames := 1, cells := 0, slots := 0, locals := 12 } : Room)) (fun a U => a = #[(.ref b1), (.ref k1), .null] ∧ Z.Warmed39 U.vm ∧ U.heap = h0) (fun _ _ _ _ _ => True) (fun _ U o U' => ∃ v L, o = .returned v ∧ Q2b Z b1 k1 h0 n0 v U'.heap L ∧ FrameEnd U o U' L ({ frames := 1, cells := 0, slots := 0, locals := 12 } : Room).cells ({ frames := 1, cells := 0, slots := 0, locals := 12 } : Room).slots) := by
  refine MetFree.of_bodySF (plainFor_of_name pn_2b) hisR ?_
  intro p e s m args below meth c s₁ Bd hml0 hP hK
  obtain ⟨rfl, hZ, hh⟩ := hP
  have hx := Bd.exec
  have hby := Bd.bytes
  have hml : c.maxLocals = 3 := hml0
  have hown : s.vm.findClass "com/example/carmine/carmine/Node" = some m.cls := findClass_of_methodNamed Bd.named
  have hnm := (name_of_methodNamed Bd.named Bd.method).1
  have X0 : Stand p l e ({ frames := 1, cells := 0, slots := 0, locals := 12 } : Room) s m #[(.ref b1), (.ref k1), .null] below meth c s₁ [] 0 0 := Stand.of_body Bd
  have e0 : s₁.heap = h0 := by rw [← hh, Bd.state]; rfl
  have N0 := Fr.nil n0
  refine goB (ef_2b m b1 k1) ?_
  show Go p.tables e below s₁ (mkF m 0 #[.val (.ref b1), .val (.ref k1), .val .null] []) _
  refine go1 (fun _ => XS.aloadN X0.here hx rfl (hb hby d2_0) rfl rfl) ?_
  show Go p.tables e below s₁ (mkF m 1 #[.val (.ref b1), .val (.ref k1), .val .null] [(.ref b1)]) _
  obtain ⟨T1, X1, e1, st1⟩ := initO X0 hx hZ hown (hw _ (List.mem_of_getElem? (i := 13) rfl)) (hw _ (List.mem_of_getElem? (i := 14) rfl)) (hw _ (List.mem_of_getElem? (i := 15) rfl)) e0 (g := (mkF m 1 #[.val (.ref b1), .val (.ref k1), .val .null] [(.ref b1)])) rfl (by rw [hml]; rfl) rfl (hb hby d2_1) (by decide) (W := 0) (by show 2 * 0 + _ ≤ _; exact Nat.le_of_eq rfl) (by decide)
  refine go1 st1 ?_
  show Go p.tables e below T1 (mkF m 4 #[.val (.ref b1), .val (.ref k1), .val .null] []) _
  refine go1 (fun _ => XS.aloadN X1.here hx rfl (hb hby d2_4) rfl rfl) ?_
  show Go p.tables e below T1 (mkF m 5 #[.val (.ref b1), .val (.ref k1), .val .null] [(.ref b1)]) _
  refine go1 (fun _ => XS.aloadN X1.here hx rfl (hb hby d2_5) rfl rfl) ?_
  show Go p.tables e below T1 (mkF m 6 #[.val (.ref b1), .val (.ref k1), .val .null] [(.ref k1), (.ref b1)]) _
  obtain ⟨T2, h2, X2, e2, W2, st2⟩ := putF X1 hx hZ hown (host := "") (Or.inl (hw _ (List.mem_of_getElem? (i := 16) rfl))) Via.refl e1 F_key_b1 E_b1 (Or.inl (hw _ (List.mem_of_getElem? (i := 17) rfl))) (hw _ (List.mem_of_getElem? (i := 1) rfl)) (ty := (.object "java/lang/Object")) (by decide) rfl rfl (g := (mkF m 6 #[.val (.ref b1), .val (.ref k1), .val .null] [(.ref k1), (.ref b1)])) rfl rfl (hb hby d2_6)
  refine go1 st2 ?_
  have Fw2 := F_key_b1.same W2
  have N2 := Fr.snoc X2 N0 g_b1
  show Go p.tables e below T2 (mkF m 9 #[.val (.ref b1), .val (.ref k1), .val .null] []) _
  refine go1 (fun _ => XS.aloadN X2.here hx rfl (hb hby d2_9) rfl rfl) ?_
  show Go p.tables e below T2 (mkF m 10 #[.val (.ref b1), .val (.ref k1), .val .null] [(.ref b1)]) _
  refine go1 (fun _ => XS.aloadN X2.here hx rfl (hb hby d2_10) rfl rfl) ?_
  show Go p.tables e below T2 (mkF m 11 #[.val (.ref b1), .val (.ref k1), .val .null] [.null, (.ref b1)]) _
  obtain ⟨T3, h3, X3, e3, W3, st3⟩ := putF X2 hx hZ hown (host := "") (Or.inl (hw _ (List.mem_of_getElem? (i := 18) rfl))) Via.refl e2 (F_value_b1.other W2 (Or.inr (slot_ne (Or.inl (hw _ (List.mem_of_getElem? (i := 19) rfl))) (Or.inl (hw _ (List.mem_of_getElem? (i := 17) rfl))) (by decide) (t := (.object "java/lang/Object")) (t' := (.object "java/lang/Object")) (by decide) (by decide)))) (E_b1.wr W2) (Or.inl (hw _ (List.mem_of_getElem? (i := 19) rfl))) (hw _ (List.mem_of_getElem? (i := 1) rfl)) (ty := (.object "java/lang/Object")) (by decide) rfl rfl (g := (mkF m 11 #[.val (.ref b1), .val (.ref k1), .val .null] [.null, (.ref b1)])) rfl rfl (hb hby d2_11)
  refine go1 st3 ?_
  have Fw3 := (F_value_b1.other W2 (Or.inr (slot_ne (Or.inl (hw _ (List.mem_of_getElem? (i := 19) rfl))) (Or.inl (hw _ (List.mem_of_getElem? (i := 17) rfl))) (by decide) (t := (.object "java/lang/Object")) (t' := (.object "java/lang/Object")) (by decide) (by decide)))).same W3
  have N3 := Fr.snoc X3 N2 g_b1
  show Go p.tables e below T3 (mkF m 14 #[.val (.ref b1), .val (.ref k1), .val .null] []) _
  refine go1 (fun _ => XS.aloadN X3.here hx rfl (hb hby d2_14) rfl rfl) ?_
  show Go p.tables e below T3 (mkF m 15 #[.val (.ref b1), .val (.ref k1), .val .null] [(.ref b1)]) _
  refine go1 (fun _ => XS.iconst X3.here hx rfl (hb hby d2_15)) ?_
  show Go p.tables e below T3 (mkF m 16 #[.val (.ref b1), .val (.ref k1), .val .null] [(.int (1 : Int32)), (.ref b1)]) _
  obtain ⟨T4, h4, X4, e4, W4, st4⟩ := putF X3 hx hZ hown (host := "") (Or.inl (hw _ (List.mem_of_getElem? (i := 20) rfl))) Via.refl e3 ((F_sizeAndColours_b1.other W2 (Or.inr (slot_ne (Or.inl (hw _ (List.mem_of_getElem? (i := 21) rfl))) (Or.inl (hw _ (List.mem_of_getElem? (i := 17) rfl))) (by decide) (t := .int) (t' := (.object "java/lang/Object")) (by decide) (by decide)))).other W3 (Or.inr (slot_ne (Or.inl (hw _ (List.mem_of_getElem? (i := 21) rfl))) (Or.inl (hw _ (List.mem_of_getElem? (i := 19) rfl))) (by decide) (t := .int) (t' := (.object "java/lang/Object")) (by decide) (by decide)))) ((E_b1.wr W2).wr W3) (Or.inl (hw _ (List.mem_of_getElem? (i := 21) rfl))) (hw _ (List.mem_of_getElem? (i := 1) rfl)) (ty := .int) (by decide) rfl rfl (g := (mkF m 16 #[.val (.ref b1), .val (.ref k1), .val .null] [(.int (1 : Int32)), (.ref b1)])) rfl rfl (hb hby d2_16)
  refine go1 st4 ?_
  have Fw4 := ((F_sizeAndColours_b1.other W2 (Or.inr (slot_ne (Or.inl (hw _ (List.mem_of_getElem? (i := 21) rfl))) (Or.inl (hw _ (List.mem_of_getElem? (i := 17) rfl))) (by decide) (t := .int) (t' := (.object "java/lang/Object")) (by decide) (by decide)))).other W3 (Or.inr (slot_ne (Or.inl (hw _ (List.mem_of_getElem? (i := 21) rfl))) (Or.inl (hw _ (List.mem_of_getElem? (i := 19) rfl))) (by decide) (t := .int) (t' := (.object "java/lang/Object")) (by decide) (by decide)))).same W4
  have N4 := Fr.snoc X4 N3 g_b1
  show Go p.tables e below T4 (mkF m 19 #[.val (.ref b1), .val (.ref k1), .val .null] []) _
  refine goR X4 (BodyLoose.notSynchronized Bd) (v := none) (fun _ => rfl) (Q2b Z b1 k1 h0 n0) (fun fs hr => X4.returnOut hx Bd.returns (hb hby d2_19) hr) (by decide) (by decide) ?_
  show Q2b Z b1 k1 h0 n0 _ T4.heap _
  rw [e4]
  exact ⟨rfl, N4, ((((Keep.refl h0 [b1]).wr W2 (Or.inl (List.mem_of_getElem? (i := 0) rfl))).wr W3 (Or.inl (List.mem_of_getElem? (i := 0) rfl))).wr W4 (Or.inl (List.mem_of_getElem? (i := 0) rfl))), (((E_b1.wr W2).wr W3).wr W4), (((F_left_b1.other W2 (Or.inr (slot_ne (Or.inl (hw _ (List.mem_of_getElem? (i := 109) rfl))) (Or.inl (hw _ (List.mem_of_getElem? (i := 17) rfl))) (by decide) (t := (.object "com/example/carmine/carmine/Node")) (t' := (.object "java/lang/Object")) (by decide) (by decide)))).other W3 (Or.inr (slot_ne (Or.inl (hw _ (List.mem_of_getElem? (i := 109) rfl))) (Or.inl (hw _ (List.mem_of_getElem? (i := 19) rfl))) (by decide) (t := (.object "com/example/carmine/carmine/Node")) (t' := (.object "java/lang/Object")) (by decide) (by decide)))).other W4 (Or.inr (slot_ne (Or.inl (hw _ (List.mem_of_getElem? (i := 109) rfl))) (Or.inl (hw _ (List.mem_of_getElem? (i := 21) rfl))) (by decide) (t := (.object "com/example/carmine/carmine/Node")) (t' := .int) (by decide) (by decide)))), (((F_right_b1.other W2 (Or.inr (slot_ne (Or.inl (hw _ (List.mem_of_getElem? (i := 27) rfl))) (Or.inl (hw _ (List.mem_of_getElem? (i := 17) rfl))) (by decide) (t := (.object "com/example/carmine/carmine/Node")) (t' := (.object "java/lang/Object")) (by decide) (by decide)))).other W3 (Or.inr (slot_ne (Or.inl (hw _ (List.mem_of_getElem? (i := 27) rfl))) (Or.inl (hw _ (List.mem_of_getElem? (i := 19) rfl))) (by decide) (t := (.object "com/example/carmine/carmine/Node")) (t' := (.object "java/lang/Object")) (by decide) (by decide)))).other W4 (Or.inr (slot_ne (Or.inl (hw _ (List.mem_of_getElem? (i := 27) rfl))) (Or.inl (hw _ (List.mem_of_getElem? (i := 21) rfl))) (by decide) (t := (.object "com/example/carmine/carmine/Node")) (t' := .int) (by decide) (by decide)))), Fw4⟩
theorem d4_0 : decode method_2_code 0 = .ok (.iload_n 0, 1) := by decide +kernel
theorem d4_1 : decode method_2_code 1 = .ok (.iconst 3, 1) := by decide +kernel
theorem d4_2 : decode method_2_code 2 = .ok (.iand, 1) := by decide +kernel
theorem d4_3 : decode method_2_code 3 = .ok (.istore 4, 2) := by decide +kernel
theorem d4_5 : decode method_2_code 5 = .ok (.iload 4, 2) := by decide +kernel
theorem d4_7 : decode method_2_code 7 = .ok (.ifCond .ne 5, 3) := by decide +kernel
theorem d4_10 : decode method_2_code 10 = .ok (.aconst_null, 1) := by decide +kernel
theorem d4_11 : decode method_2_code 11 = .ok (.areturn, 1) := by decide +kernel
theorem d4_12 : decode method_2_code 12 = .ok (.iload 4, 2) := by decide +kernel
theorem d4_14 : decode method_2_code 14 = .ok (.iconst 1, 1) := by decide +kernel
theorem d4_15 : decode method_2_code 15 = .ok (.if_icmp .ne 5, 3) := by decide +kernel
theorem d4_18 : decode method_2_code 18 = .ok (.aload_n 1, 1) := by decide +kernel
theorem d4_19 : decode method_2_code 19 = .ok (.areturn, 1) := by decide +kernel
theorem d4_20 : decode method_2_code 20 = .ok (.iload 4, 2) := by decide +kernel
theorem d4_22 : decode method_2_code 22 = .ok (.iconst 2, 1) := by decide +kernel
theorem d4_23 : decode method_2_code 23 = .ok (.if_icmp .ne 5, 3) := by decide +kernel
theorem d4_26 : decode method_2_code 26 = .ok (.aload_n 2, 1) := by decide +kernel
theorem d4_27 : decode method_2_code 27 = .ok (.areturn, 1) := by decide +kernel
theorem d4_28 : decode method_2_code 28 = .ok (.aload_n 3, 1) := by decide +kernel
theorem d4_29 : decode method_2_code 29 = .ok (.areturn, 1) := by decide +kernel
theorem pn_4 : plainName "com/example/carmine/carmine/LinksAddPinLaw" = true := by first | (simp [plainName, overriddenIn]; done) | decide +kernel
theorem ef_4 (m : MethodId) (p1 : Int32) (a1 : Addr) (a2 : Addr) (a3 : Addr) : entryFrame m #[(.int p1), (.ref a1), (.ref a2), (.ref a3)] 5 = mkF m 0 #[.val (.int p1), .val (.ref a1), .val (.ref a2), .val (.ref a3), .unset] [] := by first | (simp [entryFrame, mkF, argsToLocals, Value.category]; done) | rfl
def Q4 (Z : State) (p1 : Int32) (a1 : Addr) (a2 : Addr) (a3 : Addr) (h0 : Heap) (n0 : Nat) (v : Option Value) (h : Heap) (L : List Loc) : Prop := ∃ (u : Value), v = some u ∧ Fr n0 L ∧ h = h0 ∧ u.isRef = true
set_option maxRecDepth 65536 in
set_option maxHeartbeats 40000000 in
theorem rm4 (l : Launch) (Z : State) (a0 : Array Value) (hw : ∀ d ∈ tables_1, d.before a0 Z = true) (ws : List Jvm.Cond) (p1 : Int32) (a1 : Addr) (a2 : Addr) (a3 : Addr) (h0 : Heap) (n0 : Nat) (Z0 : n0 ≤ h0.size) :
    MetFree l (⟨"com/example/carmine/carmine/LinksAddPinLaw", "pick", "(ILcom/example/carmine/carmine/Node;Lcom/example/carmine/carmine/Node;Lcom/example/carmine/carmine/Node;)Lcom/example/carmine/carmine/Node;"⟩ : MethodName) (head1 (Jvm.Cond.code (⟨"com/example/carmine/carmine/LinksAddPinLaw", "pick", "(ILcom/example/carmine/carmine/Node;Lcom/example/carmine/carmine/Node;Lcom/example/carmine/carmine/Node;)Lcom/example/carmine/carmine/Node;"⟩ : MethodName) method_2_code 5 (some (.object "com/example/carmine/carmine/Node")) :: ws) ({ frames := 0, cells := 0, slots := 0, locals := 0 } : Room)) (fun a U => a = #[(.int p1), (.ref a1), (.ref a2), (.ref a3)] ∧ Z.Warmed39 U.vm ∧ U.heap = h0) (fun _ _ _ _ _ => True) (fun _ U o U' => ∃ v L, o = .returned v ∧ Q4 Z p1 a1 a2 a3 h0 n0 v U'.heap L ∧ FrameEnd U o U' L ({ frames := 0, cells := 0, slots := 0, locals := 0 } : Room).cells ({ frames := 0, cells := 0, slots := 0, locals := 0 } : Room).slots) := by
  refine MetFree.of_bodySF (plainFor_of_name pn_4) hisR ?_
  intro p e s m args below meth c s₁ Bd hml0 hP hK
  obtain ⟨rfl, hZ, hh⟩ := hP
  have hx := Bd.exec
  have hby := Bd.bytes
  have hml : c.maxLocals = 5 := hml0
  have hown : s.vm.findClass "com/example/carmine/carmine/LinksAddPinLaw" = some m.cls := findClass_of_methodNamed Bd.named
  have hnm := (name_of_methodNamed Bd.named Bd.method).1
  have X0 : Stand p l e ({ frames := 0, cells := 0, slots := 0, locals := 0 } : Room) s m #[(.int p1), (.ref a1), (.ref a2), (.ref a3)] below meth c s₁ [] 0 0 := Stand.of_body Bd
  have e0 : s₁.heap = h0 := by rw [← hh, Bd.state]; rfl
  have N0 := Fr.nil n0
  refine goB (ef_4 m p1 a1 a2 a3) ?_
  show Go p.tables e below s₁ (mkF m 0 #[.val (.int p1), .val (.ref a1), .val (.ref a2), .val (.ref a3), .unset] []) _
  refine go1 (fun _ => XS.iloadN X0.here hx rfl (hb hby d4_0) rfl) ?_
  show Go p.tables e below s₁ (mkF m 1 #[.val (.int p1), .val (.ref a1), .val (.ref a2), .val (.ref a3), .unset] [(.int p1)]) _
  refine go1 (fun _ => XS.iconst X0.here hx rfl (hb hby d4_1)) ?_
  show Go p.tables e below s₁ (mkF m 2 #[.val (.int p1), .val (.ref a1), .val (.ref a2), .val (.ref a3), .unset] [(.int (3 : Int32)), (.int p1)]) _
  refine go1 (fun _ => XS.iand X0.here hx rfl (hb hby d4_2) rfl) ?_
  show Go p.tables e below s₁ (mkF m 3 #[.val (.int p1), .val (.ref a1), .val (.ref a2), .val (.ref a3), .unset] [(.int (p1 &&& (3 : Int32)))]) _
  refine go1 (fun _ => XS.istore X0.here hx rfl (hb hby d4_3) rfl (l' := #[.val (.int p1), .val (.ref a1), .val (.ref a2), .val (.ref a3), .val (.int (p1 &&& (3 : Int32)))]) rfl) ?_
  show Go p.tables e below s₁ (mkF m 5 #[.val (.int p1), .val (.ref a1), .val (.ref a2), .val (.ref a3), .val (.int (p1 &&& (3 : Int32)))] []) _
  refine go1 (fun _ => XS.iload X0.here hx rfl (hb hby d4_5) rfl) ?_
  show Go p.tables e below s₁ (mkF m 7 #[.val (.int p1), .val (.ref a1), .val (.ref a2), .val (.ref a3), .val (.int (p1 &&& (3 : Int32)))] [(.int (p1 &&& (3 : Int32)))]) _
  by_cases hc1 : (p1 &&& (3 : Int32)) = (0 : Int32)
  · skip
    refine go1 (fun _ => XS.ifNo X0.here hx rfl (hb hby d4_7) rfl ((if0 _ _).trans (teq hc1).2)) ?_
    show Go p.tables e below s₁ (mkF m 10 #[.val (.int p1), .val (.ref a1), .val (.ref a2), .val (.ref a3), .val (.int (p1 &&& (3 : Int32)))] []) _
    refine go1 (fun _ => XS.aconstNull X0.here hx rfl (hb hby d4_10)) ?_
    show Go p.tables e below s₁ (mkF m 11 #[.val (.int p1), .val (.ref a1), .val (.ref a2), .val (.ref a3), .val (.int (p1 &&& (3 : Int32)))] [.null]) _
    refine goR X0 (BodyLoose.notSynchronized Bd) (v := (some .null)) (fun h => by rw [Bd.returns] at h; cases h) (Q4 Z p1 a1 a2 a3 h0 n0) (fun fs hr => retOut X0 hx (t := (.object "com/example/carmine/carmine/Node")) (w := .null) Bd.returns rfl (Or.inr (Or.inr (Or.inr (Or.inr ⟨rfl, rfl, rfl⟩)))) (hb hby d4_11) hr) (by decide) (by decide) ?_
    show Q4 Z p1 a1 a2 a3 h0 n0 _ s₁.heap _
    rw [e0]
    exact ⟨.null, rfl, N0, rfl, (by first | assumption | decide | rfl)⟩
  · skip
    refine go1 (fun _ => XS.ifYes X0.here hx rfl (pc0 := 7) (pc' := 12) rfl (hb hby d4_7) rfl ((if0 _ _).trans (feq hc1).2) (by decide) (by decide)) ?_
    show Go p.tables e below s₁ (mkF m 12 #[.val (.int p1), .val (.ref a1), .val (.ref a2), .val (.ref a3), .val (.int (p1 &&& (3 : Int32)))] []) _
    refine go1 (fun _ => XS.iload X0.here hx rfl (hb hby d4_12) rfl) ?_
    show Go p.tables e below s₁ (mkF m 14 #[.val (.int p1), .val (.ref a1), .val (.ref a2), .val (.ref a3), .val (.int (p1 &&& (3 : Int32)))] [(.int (p1 &&& (3 : Int32)))]) _
    refine go1 (fun _ => XS.iconst X0.here hx rfl (hb hby d4_14)) ?_
    show Go p.tables e below s₁ (mkF m 15 #[.val (.int p1), .val (.ref a1), .val (.ref a2), .val (.ref a3), .val (.int (p1 &&& (3 : Int32)))] [(.int (1 : Int32)), (.int (p1 &&& (3 : Int32)))]) _
    by_cases hc2 : (p1 &&& (3 : Int32)) = (1 : Int32)
    · skip
      refine go1 (fun _ => XS.icmpNo X0.here hx rfl (hb hby d4_15) rfl (teq hc2).2) ?_
      show Go p.tables e below s₁ (mkF m 18 #[.val (.int p1), .val (.ref a1), .val (.ref a2), .val (.ref a3), .val (.int (p1 &&& (3 : Int32)))] []) _
      refine go1 (fun _ => XS.aloadN X0.here hx rfl (hb hby d4_18) rfl rfl) ?_
      show Go p.tables e below s₁ (mkF m 19 #[.val (.int p1), .val (.ref a1), .val (.ref a2), .val (.ref a3), .val (.int (p1 &&& (3 : Int32)))] [(.ref a1)]) _
      refine goR X0 (BodyLoose.notSynchronized Bd) (v := (some (.ref a1))) (fun h => by rw [Bd.returns] at h; cases h) (Q4 Z p1 a1 a2 a3 h0 n0) (fun fs hr => retOut X0 hx (t := (.object "com/example/carmine/carmine/Node")) (w := (.ref a1)) Bd.returns rfl (Or.inr (Or.inr (Or.inr (Or.inr ⟨rfl, rfl, rfl⟩)))) (hb hby d4_19) hr) (by decide) (by decide) ?_
      show Q4 Z p1 a1 a2 a3 h0 n0 _ s₁.heap _
      rw [e0]
      exact ⟨(.ref a1), rfl, N0, rfl, (by first | assumption | decide | rfl)⟩
    · skip
      refine go1 (fun _ => XS.icmpYes X0.here hx rfl (pc0 := 15) (pc' := 20) rfl (hb hby d4_15) rfl (feq hc2).2 (by decide) (by decide)) ?_
      show Go p.tables e below s₁ (mkF m 20 #[.val (.int p1), .val (.ref a1), .val (.ref a2), .val (.ref a3), .val (.int (p1 &&& (3 : Int32)))] []) _
      refine go1 (fun _ => XS.iload X0.here hx rfl (hb hby d4_20) rfl) ?_
      show Go p.tables e below s₁ (mkF m 22 #[.val (.int p1), .val (.ref a1), .val (.ref a2), .val (.ref a3), .val (.int (p1 &&& (3 : Int32)))] [(.int (p1 &&& (3 : Int32)))]) _
      refine go1 (fun _ => XS.iconst X0.here hx rfl (hb hby d4_22)) ?_
      show Go p.tables e below s₁ (mkF m 23 #[.val (.int p1), .val (.ref a1), .val (.ref a2), .val (.ref a3), .val (.int (p1 &&& (3 : Int32)))] [(.int (2 : Int32)), (.int (p1 &&& (3 : Int32)))]) _
      by_cases hc3 : (p1 &&& (3 : Int32)) = (2 : Int32)
      · skip
        refine go1 (fun _ => XS.icmpNo X0.here hx rfl (hb hby d4_23) rfl (teq hc3).2) ?_
        show Go p.tables e below s₁ (mkF m 26 #[.val (.int p1), .val (.ref a1), .val (.ref a2), .val (.ref a3), .val (.int (p1 &&& (3 : Int32)))] []) _
        refine go1 (fun _ => XS.aloadN X0.here hx rfl (hb hby d4_26) rfl rfl) ?_
        show Go p.tables e below s₁ (mkF m 27 #[.val (.int p1), .val (.ref a1), .val (.ref a2), .val (.ref a3), .val (.int (p1 &&& (3 : Int32)))] [(.ref a2)]) _
        refine goR X0 (BodyLoose.notSynchronized Bd) (v := (some (.ref a2))) (fun h => by rw [Bd.returns] at h; cases h) (Q4 Z p1 a1 a2 a3 h0 n0) (fun fs hr => retOut X0 hx (t := (.object "com/example/carmine/carmine/Node")) (w := (.ref a2)) Bd.returns rfl (Or.inr (Or.inr (Or.inr (Or.inr ⟨rfl, rfl, rfl⟩)))) (hb hby d4_27) hr) (by decide) (by decide) ?_
        show Q4 Z p1 a1 a2 a3 h0 n0 _ s₁.heap _
        rw [e0]
        exact ⟨(.ref a2), rfl, N0, rfl, (by first | assumption | decide | rfl)⟩
      · skip
        refine go1 (fun _ => XS.icmpYes X0.here hx rfl (pc0 := 23) (pc' := 28) rfl (hb hby d4_23) rfl (feq hc3).2 (by decide) (by decide)) ?_
        show Go p.tables e below s₁ (mkF m 28 #[.val (.int p1), .val (.ref a1), .val (.ref a2), .val (.ref a3), .val (.int (p1 &&& (3 : Int32)))] []) _
        refine go1 (fun _ => XS.aloadN X0.here hx rfl (hb hby d4_28) rfl rfl) ?_
        show Go p.tables e below s₁ (mkF m 29 #[.val (.int p1), .val (.ref a1), .val (.ref a2), .val (.ref a3), .val (.int (p1 &&& (3 : Int32)))] [(.ref a3)]) _
        refine goR X0 (BodyLoose.notSynchronized Bd) (v := (some (.ref a3))) (fun h => by rw [Bd.returns] at h; cases h) (Q4 Z p1 a1 a2 a3 h0 n0) (fun fs hr => retOut X0 hx (t := (.object "com/example/carmine/carmine/Node")) (w := (.ref a3)) Bd.returns rfl (Or.inr (Or.inr (Or.inr (Or.inr ⟨rfl, rfl, rfl⟩)))) (hb hby d4_29) hr) (by decide) (by decide) ?_
        show Q4 Z p1 a1 a2 a3 h0 n0 _ s₁.heap _
        rw [e0]
        exact ⟨(.ref a3), rfl, N0, rfl, (by first | assumption | decide | rfl)⟩
theorem d5_0 : decode prog_10_method_1_code 0 = .ok (.aload_n 0, 1) := by decide +kernel
theorem d5_1 : decode prog_10_method_1_code 1 = .ok (.invokespecial 1, 3) := by decide +kernel
theorem d5_4 : decode prog_10_method_1_code 4 = .ok (.return_, 1) := by decide +kernel
theorem pn_5 : plainName "com/example/carmine/carmine/RedBlack$Links" = true := by first | (simp [plainName, overriddenIn]; done) | decide +kernel
theorem ef_5 (m : MethodId) (b1 : Addr) : entryFrame m #[(.ref b1)] 1 = mkF m 0 #[.val (.ref b1)] [] := by first | (simp [entryFrame, mkF, argsToLocals, Value.category]; done) | rfl
def Q5 (Z : State) (b1 : Addr) (h0 : Heap) (n0 : Nat) (v : Option Value) (h : Heap) (L : List Loc) : Prop := v = none ∧ Fr n0 L ∧ h = h0
set_option maxRecDepth 65536 in
set_option maxHeartbeats 40000000 in
theorem rm5 (l : Launch) (Z : State) (a0 : Array Value) (hw : ∀ d ∈ tables_1, d.before a0 Z = true) (ws : List Jvm.Cond) (b1 : Addr) (h0 : Heap) (n0 : Nat) (Z0 : n0 ≤ h0.size) :
    MetFree l (⟨"com/example/carmine/carmine/RedBlack$Links", "<init>", "()V"⟩ : MethodName) (head1 (Jvm.Cond.code (⟨"com/example/carmine/carmine/RedBlack$Links", "<init>", "()V"⟩ : MethodName) prog_10_method_1_code 1 none :: ws) ({ frames := 1, cells := 0, slots := 0, locals := 12 } : Room)) (fun a U => a = #[(.ref b1)] ∧ Z.Warmed39 U.vm ∧ U.heap = h0) (fun _ _ _ _ _ => True) (fun _ U o U' => ∃ v L, o = .returned v ∧ Q5 Z b1 h0 n0 v U'.heap L ∧ FrameEnd U o U' L ({ frames := 1, cells := 0, slots := 0, locals := 12 } : Room).cells ({ frames := 1, cells := 0, slots := 0, locals := 12 } : Room).slots) := by
  refine MetFree.of_bodySF (plainFor_of_name pn_5) hisR ?_
  intro p e s m args below meth c s₁ Bd hml0 hP hK
  obtain ⟨rfl, hZ, hh⟩ := hP
  have hx := Bd.exec
  have hby := Bd.bytes
  have hml : c.maxLocals = 1 := hml0
  have hown : s.vm.findClass "com/example/carmine/carmine/RedBlack$Links" = some m.cls := findClass_of_methodNamed Bd.named
  have hnm := (name_of_methodNamed Bd.named Bd.method).1
  have X0 : Stand p l e ({ frames := 1, cells := 0, slots := 0, locals := 12 } : Room) s m #[(.ref b1)] below meth c s₁ [] 0 0 := Stand.of_body Bd
  have e0 : s₁.heap = h0 := by rw [← hh, Bd.state]; rfl
  have N0 := Fr.nil n0
  refine goB (ef_5 m b1) ?_
  show Go p.tables e below s₁ (mkF m 0 #[.val (.ref b1)] []) _
  refine go1 (fun _ => XS.aloadN X0.here hx rfl (hb hby d5_0) rfl rfl) ?_
  show Go p.tables e below s₁ (mkF m 1 #[.val (.ref b1)] [(.ref b1)]) _
  obtain ⟨T1, X1, e1, st1⟩ := initO X0 hx hZ hown (hw _ (List.mem_of_getElem? (i := 34) rfl)) (hw _ (List.mem_of_getElem? (i := 14) rfl)) (hw _ (List.mem_of_getElem? (i := 15) rfl)) e0 (g := (mkF m 1 #[.val (.ref b1)] [(.ref b1)])) rfl (by rw [hml]; rfl) rfl (hb hby d5_1) (by decide) (W := 0) (by show 2 * 0 + _ ≤ _; exact Nat.le_of_eq rfl) (by decide)
  refine go1 st1 ?_
  show Go p.tables e below T1 (mkF m 4 #[.val (.ref b1)] []) _
  refine goR X1 (BodyLoose.notSynchronized Bd) (v := none) (fun _ => rfl) (Q5 Z b1 h0 n0) (fun fs hr => X1.returnOut hx Bd.returns (hb hby d5_4) hr) (by decide) (by decide) ?_
  show Q5 Z b1 h0 n0 _ T1.heap _
  rw [e1]
  exact ⟨rfl, N0, rfl⟩
theorem d6_0 : decode prog_10_method_3_code 0 = .ok (.aload_n 0, 1) := by decide +kernel
theorem d6_1 : decode prog_10_method_3_code 1 = .ok (.getfield 7, 3) := by decide +kernel
theorem d6_4 : decode prog_10_method_3_code 4 = .ok (.areturn, 1) := by decide +kernel
theorem pn_6 : plainName "com/example/carmine/carmine/RedBlack$Links" = true := by first | (simp [plainName, overriddenIn]; done) | decide +kernel
theorem ef_6 (m : MethodId) (l1 : Addr) : entryFrame m #[(.ref l1)] 1 = mkF m 0 #[.val (.ref l1)] [] := by first | (simp [entryFrame, mkF, argsToLocals, Value.category]; done) | rfl
def Q6 (Z : State) (l1 : Addr) (u : Value) (h0 : Heap) (n0 : Nat) (v : Option Value) (h : Heap) (L : List Loc) : Prop := v = some u ∧ Fr n0 L ∧ h = h0
set_option maxRecDepth 65536 in
set_option maxHeartbeats 40000000 in
theorem rm6 (l : Launch) (Z : State) (a0 : Array Value) (hw : ∀ d ∈ tables_1, d.before a0 Z = true) (ws : List Jvm.Cond) (l1 : Addr) (u : Value) (h0 : Heap) (n0 : Nat) (Z0 : n0 ≤ h0.size) (F_last_l1 : Fld Z h0 l1 "com/example/carmine/carmine/RedBlack$Links" "last" "Lcom/example/carmine/carmine/Node;" u) (hu : u.isRef = true) :
    MetFree l (⟨"com/example/carmine/carmine/RedBlack$Links", "last", "()Lcom/example/carmine/carmine/Node;"⟩ : MethodName) (head1 (Jvm.Cond.code (⟨"com/example/carmine/carmine/RedBlack$Links", "last", "()Lcom/example/carmine/carmine/Node;"⟩ : MethodName) prog_10_method_3_code 1 (some (.object "com/example/carmine/carmine/Node")) :: ws) ({ frames := 0, cells := 0, slots := 0, locals := 0 } : Room)) (fun a U => a = #[(.ref l1)] ∧ Z.Warmed39 U.vm ∧ U.heap = h0) (fun _ _ _ _ _ => True) (fun _ U o U' => ∃ v L, o = .returned v ∧ Q6 Z l1 u h0 n0 v U'.heap L ∧ FrameEnd U o U' L ({ frames := 0, cells := 0, slots := 0, locals := 0 } : Room).cells ({ frames := 0, cells := 0, slots := 0, locals := 0 } : Room).slots) := by
  refine MetFree.of_bodySF (plainFor_of_name pn_6) hisR ?_
  intro p e s m args below meth c s₁ Bd hml0 hP hK
  obtain ⟨rfl, hZ, hh⟩ := hP
  have hx := Bd.exec
  have hby := Bd.bytes
  have hml : c.maxLocals = 1 := hml0
  have hown : s.vm.findClass "com/example/carmine/carmine/RedBlack$Links" = some m.cls := findClass_of_methodNamed Bd.named
  have hnm := (name_of_methodNamed Bd.named Bd.method).1
  have X0 : Stand p l e ({ frames := 0, cells := 0, slots := 0, locals := 0 } : Room) s m #[(.ref l1)] below meth c s₁ [] 0 0 := Stand.of_body Bd
  have e0 : s₁.heap = h0 := by rw [← hh, Bd.state]; rfl
  have N0 := Fr.nil n0
  refine goB (ef_6 m l1) ?_
  show Go p.tables e below s₁ (mkF m 0 #[.val (.ref l1)] []) _
  refine go1 (fun _ => XS.aloadN X0.here hx rfl (hb hby d6_0) rfl rfl) ?_
  show Go p.tables e below s₁ (mkF m 1 #[.val (.ref l1)] [(.ref l1)]) _
  obtain ⟨T1, X1, e1, st1⟩ := getF X0 hx hZ hown (host := "") (Or.inl (hw _ (List.mem_of_getElem? (i := 40) rfl))) Via.refl e0 F_last_l1 (g := (mkF m 1 #[.val (.ref l1)] [(.ref l1)])) rfl rfl (hb hby d6_1)
  refine go1 st1 ?_
  show Go p.tables e below T1 (mkF m 4 #[.val (.ref l1)] [u]) _
  refine goR X1 (BodyLoose.notSynchronized Bd) (v := (some u)) (fun h => by rw [Bd.returns] at h; cases h) (Q6 Z l1 u h0 n0) (fun fs hr => retOut X1 hx (t := (.object "com/example/carmine/carmine/Node")) (w := u) Bd.returns rfl (Or.inr (Or.inr (Or.inr (Or.inr ⟨rfl, rfl, hu⟩)))) (hb hby d6_4) hr) (by decide) (by decide) ?_
  show Q6 Z l1 u h0 n0 _ T1.heap _
  rw [e1]
  exact ⟨rfl, N0, rfl⟩
theorem d7_0 : decode prog_10_method_4_code 0 = .ok (.aload_n 0, 1) := by decide +kernel
theorem d7_1 : decode prog_10_method_4_code 1 = .ok (.getfield 21, 3) := by decide +kernel
theorem d7_4 : decode prog_10_method_4_code 4 = .ok (.ireturn, 1) := by decide +kernel
theorem pn_7 : plainName "com/example/carmine/carmine/RedBlack$Links" = true := by first | (simp [plainName, overriddenIn]; done) | decide +kernel
theorem ef_7 (m : MethodId) (l1 : Addr) : entryFrame m #[(.ref l1)] 1 = mkF m 0 #[.val (.ref l1)] [] := by first | (simp [entryFrame, mkF, argsToLocals, Value.category]; done) | rfl
def Q7 (Z : State) (l1 : Addr) (s1 : Int32) (h0 : Heap) (n0 : Nat) (v : Option Value) (h : Heap) (L : List Loc) : Prop := v = some (.int s1) ∧ Fr n0 L ∧ h = h0
set_option maxRecDepth 65536 in
set_option maxHeartbeats 40000000 in
theorem rm7 (l : Launch) (Z : State) (a0 : Array Value) (hw : ∀ d ∈ tables_1, d.before a0 Z = true) (ws : List Jvm.Cond) (l1 : Addr) (s1 : Int32) (h0 : Heap) (n0 : Nat) (Z0 : n0 ≤ h0.size) (F_size_l1 : Fld Z h0 l1 "com/example/carmine/carmine/RedBlack$Links" "size" "I" (.int s1)) :
    MetFree l (⟨"com/example/carmine/carmine/RedBlack$Links", "size", "()I"⟩ : MethodName) (head1 (Jvm.Cond.code (⟨"com/example/carmine/carmine/RedBlack$Links", "size", "()I"⟩ : MethodName) prog_10_method_4_code 1 (some .int) :: ws) ({ frames := 0, cells := 0, slots := 0, locals := 0 } : Room)) (fun a U => a = #[(.ref l1)] ∧ Z.Warmed39 U.vm ∧ U.heap = h0) (fun _ _ _ _ _ => True) (fun _ U o U' => ∃ v L, o = .returned v ∧ Q7 Z l1 s1 h0 n0 v U'.heap L ∧ FrameEnd U o U' L ({ frames := 0, cells := 0, slots := 0, locals := 0 } : Room).cells ({ frames := 0, cells := 0, slots := 0, locals := 0 } : Room).slots) := by
  refine MetFree.of_bodySF (plainFor_of_name pn_7) hisR ?_
  intro p e s m args below meth c s₁ Bd hml0 hP hK
  obtain ⟨rfl, hZ, hh⟩ := hP
  have hx := Bd.exec
  have hby := Bd.bytes
  have hml : c.maxLocals = 1 := hml0
  have hown : s.vm.findClass "com/example/carmine/carmine/RedBlack$Links" = some m.cls := findClass_of_methodNamed Bd.named
  have hnm := (name_of_methodNamed Bd.named Bd.method).1
  have X0 : Stand p l e ({ frames := 0, cells := 0, slots := 0, locals := 0 } : Room) s m #[(.ref l1)] below meth c s₁ [] 0 0 := Stand.of_body Bd
  have e0 : s₁.heap = h0 := by rw [← hh, Bd.state]; rfl
  have N0 := Fr.nil n0
  refine goB (ef_7 m l1) ?_
  show Go p.tables e below s₁ (mkF m 0 #[.val (.ref l1)] []) _
  refine go1 (fun _ => XS.aloadN X0.here hx rfl (hb hby d7_0) rfl rfl) ?_
  show Go p.tables e below s₁ (mkF m 1 #[.val (.ref l1)] [(.ref l1)]) _
  obtain ⟨T1, X1, e1, st1⟩ := getF X0 hx hZ hown (host := "") (Or.inl (hw _ (List.mem_of_getElem? (i := 47) rfl))) Via.refl e0 F_size_l1 (g := (mkF m 1 #[.val (.ref l1)] [(.ref l1)])) rfl rfl (hb hby d7_1)
  refine go1 st1 ?_
  show Go p.tables e below T1 (mkF m 4 #[.val (.ref l1)] [(.int s1)]) _
  refine goR X1 (BodyLoose.notSynchronized Bd) (v := (some (.int s1))) (fun h => by rw [Bd.returns] at h; cases h) (Q7 Z l1 s1 h0 n0) (fun fs hr => retI X1 hx Bd.returns (hb hby d7_4) hr) (by decide) (by decide) ?_
  show Q7 Z l1 s1 h0 n0 _ T1.heap _
  rw [e1]
  exact ⟨rfl, N0, rfl⟩
theorem d12_0 : decode prog_10_method_2_code 0 = .ok (.aload_n 0, 1) := by decide +kernel
theorem d12_1 : decode prog_10_method_2_code 1 = .ok (.getfield 7, 3) := by decide +kernel
theorem d12_4 : decode prog_10_method_2_code 4 = .ok (.ifnonnull 11, 3) := by decide +kernel
theorem d12_7 : decode prog_10_method_2_code 7 = .ok (.aload_n 0, 1) := by decide +kernel
theorem d12_8 : decode prog_10_method_2_code 8 = .ok (.aload_n 1, 1) := by decide +kernel
theorem d12_9 : decode prog_10_method_2_code 9 = .ok (.putfield 13, 3) := by decide +kernel
theorem d12_12 : decode prog_10_method_2_code 12 = .ok (.goto 11, 3) := by decide +kernel
theorem d12_23 : decode prog_10_method_2_code 23 = .ok (.aload_n 0, 1) := by decide +kernel
theorem d12_24 : decode prog_10_method_2_code 24 = .ok (.aload_n 1, 1) := by decide +kernel
theorem d12_25 : decode prog_10_method_2_code 25 = .ok (.putfield 7, 3) := by decide +kernel
theorem d12_28 : decode prog_10_method_2_code 28 = .ok (.aload_n 0, 1) := by decide +kernel
theorem d12_29 : decode prog_10_method_2_code 29 = .ok (.dup, 1) := by decide +kernel
theorem d12_30 : decode prog_10_method_2_code 30 = .ok (.getfield 21, 3) := by decide +kernel
theorem d12_33 : decode prog_10_method_2_code 33 = .ok (.iconst 1, 1) := by decide +kernel
theorem d12_34 : decode prog_10_method_2_code 34 = .ok (.iadd, 1) := by decide +kernel
theorem d12_35 : decode prog_10_method_2_code 35 = .ok (.putfield 21, 3) := by decide +kernel
theorem d12_38 : decode prog_10_method_2_code 38 = .ok (.return_, 1) := by decide +kernel
theorem pn_14a : plainName "com/example/carmine/carmine/RedBlack$Links" = true := by first | (simp [plainName, overriddenIn]; done) | decide +kernel
theorem ef_14a (m : MethodId) (l1 : Addr) (a1 : Addr) : entryFrame m #[(.ref l1), (.ref a1)] 2 = mkF m 0 #[.val (.ref l1), .val (.ref a1)] [] := by first | (simp [entryFrame, mkF, argsToLocals, Value.category]; done) | rfl
def Q14a (Z : State) (l1 : Addr) (a1 : Addr) (s1 : Int32) (h0 : Heap) (n0 : Nat) (v : Option Value) (h : Heap) (L : List Loc) : Prop := v = none ∧ Fr n0 L ∧ Keep h0 h [l1] ∧ Exa Z h l1 "com/example/carmine/carmine/RedBlack$Links" ∧ Fld Z h l1 "com/example/carmine/carmine/RedBlack$Links" "first" "Lcom/example/carmine/carmine/Node;" (.ref a1) ∧ Fld Z h l1 "com/example/carmine/carmine/RedBlack$Links" "last" "Lcom/example/carmine/carmine/Node;" (.ref a1) ∧ Fld Z h l1 "com/example/carmine/carmine/RedBlack$Links" "size" "I" (.int (s1 + (1 : Int32)))
set_option maxRecDepth 65536 in
set_option maxHeartbeats 40000000 in
theorem rm14a (l : Launch) (Z : State) (a0 : Array Value) (hw : ∀ d ∈ tables_1, d.before a0 Z = true) (ws : List Jvm.Cond) (l1 : Addr) (a1 : Addr) (s1 : Int32) (h0 : Heap) (n0 : Nat) (Z0 : n0 ≤ h0.size) (F_first_l1 : Fld Z h0 l1 "com/example/carmine/carmine/RedBlack$Links" "first" "Lcom/example/carmine/carmine/Node;" .null) (F_last_l1 : Fld Z h0 l1 "com/example/carmine/carmine/RedBlack$Links" "last" "Lcom/example/carmine/carmine/Node;" .null) (F_size_l1 : Fld Z h0 l1 "com/example/carmine/carmine/RedBlack$Links" "size" "I" (.int s1)) (E_l1 : Exa Z h0 l1 "com/example/carmine/carmine/RedBlack$Links") (g_l1 : n0 ≤ l1) :
    MetFree l (⟨"com/example/carmine/carmine/RedBlack$Links", "add", "(Lcom/example/carmine/carmine/Node;)V"⟩ : MethodName) (head1 (Jvm.Cond.code (⟨"com/example/carmine/carmine/RedBlack$Links", "add", "(Lcom/example/carmine/carmine/Node;)V"⟩ : MethodName) prog_10_method_2_code 2 none :: ws) ({ frames := 0, cells := 0, slots := 0, locals := 0 } : Room)) (fun a U => a = #[(.ref l1), (.ref a1)] ∧ Z.Warmed39 U.vm ∧ U.heap = h0) (fun _ _ _ _ _ => True) (fun _ U o U' => ∃ v L, o = .returned v ∧ Q14a Z l1 a1 s1 h0 n0 v U'.heap L ∧ FrameEnd U o U' L ({ frames := 0, cells := 0, slots := 0, locals := 0 } : Room).cells ({ frames := 0, cells := 0, slots := 0, locals := 0 } : Room).slots) := by
  refine MetFree.of_bodySF (plainFor_of_name pn_14a) hisR ?_
  intro p e s m args below meth c s₁ Bd hml0 hP hK
  obtain ⟨rfl, hZ, hh⟩ := hP
  have hx := Bd.exec
  have hby := Bd.bytes
  have hml : c.maxLocals = 2 := hml0
  have hown : s.vm.findClass "com/example/carmine/carmine/RedBlack$Links" = some m.cls := findClass_of_methodNamed Bd.named
  have hnm := (name_of_methodNamed Bd.named Bd.method).1
  have X0 : Stand p l e ({ frames := 0, cells := 0, slots := 0, locals := 0 } : Room) s m #[(.ref l1), (.ref a1)] below meth c s₁ [] 0 0 := Stand.of_body Bd
  have e0 : s₁.heap = h0 := by rw [← hh, Bd.state]; rfl
  have N0 := Fr.nil n0
  refine goB (ef_14a m l1 a1) ?_
  show Go p.tables e below s₁ (mkF m 0 #[.val (.ref l1), .val (.ref a1)] []) _
  refine go1 (fun _ => XS.aloadN X0.here hx rfl (hb hby d12_0) rfl rfl) ?_
  show Go p.tables e below s₁ (mkF m 1 #[.val (.ref l1), .val (.ref a1)] [(.ref l1)]) _
  obtain ⟨T1, X1, e1, st1⟩ := getF X0 hx hZ hown (host := "") (Or.inl (hw _ (List.mem_of_getElem? (i := 40) rfl))) Via.refl e0 F_last_l1 (g := (mkF m 1 #[.val (.ref l1), .val (.ref a1)] [(.ref l1)])) rfl rfl (hb hby d12_1)
  refine go1 st1 ?_
  show Go p.tables e below T1 (mkF m 4 #[.val (.ref l1), .val (.ref a1)] [.null]) _
  refine go1 (fun _ => XS.ifnonnullNo X1.here hx rfl (hb hby d12_4) rfl) ?_
  show Go p.tables e below T1 (mkF m 7 #[.val (.ref l1), .val (.ref a1)] []) _
  refine go1 (fun _ => XS.aloadN X1.here hx rfl (hb hby d12_7) rfl rfl) ?_
  show Go p.tables e below T1 (mkF m 8 #[.val (.ref l1), .val (.ref a1)] [(.ref l1)]) _
  refine go1 (fun _ => XS.aloadN X1.here hx rfl (hb hby d12_8) rfl rfl) ?_
  show Go p.tables e below T1 (mkF m 9 #[.val (.ref l1), .val (.ref a1)] [(.ref a1), (.ref l1)]) _
  obtain ⟨T2, h2, X2, e2, W2, st2⟩ := putF X1 hx hZ hown (host := "") (Or.inl (hw _ (List.mem_of_getElem? (i := 86) rfl))) Via.refl e1 F_first_l1 E_l1 (Or.inl (hw _ (List.mem_of_getElem? (i := 57) rfl))) (hw _ (List.mem_of_getElem? (i := 29) rfl)) (ty := (.object "com/example/carmine/carmine/Node")) (by decide) rfl rfl (g := (mkF m 9 #[.val (.ref l1), .val (.ref a1)] [(.ref a1), (.ref l1)])) rfl rfl (hb hby d12_9)
  refine go1 st2 ?_
  have Fw2 := F_first_l1.same W2
  have N2 := Fr.snoc X2 N0 g_l1
  show Go p.tables e below T2 (mkF m 12 #[.val (.ref l1), .val (.ref a1)] []) _
  refine go1 (fun _ => XS.goto X2.here hx rfl (pc0 := 12) (pc' := 23) rfl (hb hby d12_12) (by decide) (by decide)) ?_
  show Go p.tables e below T2 (mkF m 23 #[.val (.ref l1), .val (.ref a1)] []) _
  refine go1 (fun _ => XS.aloadN X2.here hx rfl (hb hby d12_23) rfl rfl) ?_
  show Go p.tables e below T2 (mkF m 24 #[.val (.ref l1), .val (.ref a1)] [(.ref l1)]) _
  refine go1 (fun _ => XS.aloadN X2.here hx rfl (hb hby d12_24) rfl rfl) ?_
  show Go p.tables e below T2 (mkF m 25 #[.val (.ref l1), .val (.ref a1)] [(.ref a1), (.ref l1)]) _
  obtain ⟨T3, h3, X3, e3, W3, st3⟩ := putF X2 hx hZ hown (host := "") (Or.inl (hw _ (List.mem_of_getElem? (i := 40) rfl))) Via.refl e2 (F_last_l1.other W2 (Or.inr (slot_ne (Or.inl (hw _ (List.mem_of_getElem? (i := 41) rfl))) (Or.inl (hw _ (List.mem_of_getElem? (i := 57) rfl))) (by decide) (t := (.object "com/example/carmine/carmine/Node")) (t' := (.object "com/example/carmine/carmine/Node")) (by decide) (by decide)))) (E_l1.wr W2) (Or.inl (hw _ (List.mem_of_getElem? (i := 41) rfl))) (hw _ (List.mem_of_getElem? (i := 29) rfl)) (ty := (.object "com/example/carmine/carmine/Node")) (by decide) rfl rfl (g := (mkF m 25 #[.val (.ref l1), .val (.ref a1)] [(.ref a1), (.ref l1)])) rfl rfl (hb hby d12_25)
  refine go1 st3 ?_
  have Fw3 := (F_last_l1.other W2 (Or.inr (slot_ne (Or.inl (hw _ (List.mem_of_getElem? (i := 41) rfl))) (Or.inl (hw _ (List.mem_of_getElem? (i := 57) rfl))) (by decide) (t := (.object "com/example/carmine/carmine/Node")) (t' := (.object "com/example/carmine/carmine/Node")) (by decide) (by decide)))).same W3
  have N3 := Fr.snoc X3 N2 g_l1
  show Go p.tables e below T3 (mkF m 28 #[.val (.ref l1), .val (.ref a1)] []) _
  refine go1 (fun _ => XS.aloadN X3.here hx rfl (hb hby d12_28) rfl rfl) ?_
  show Go p.tables e below T3 (mkF m 29 #[.val (.ref l1), .val (.ref a1)] [(.ref l1)]) _
  refine go1 (fun _ => XS.dup X3.here hx rfl (hb hby d12_29) rfl rfl) ?_
  show Go p.tables e below T3 (mkF m 30 #[.val (.ref l1), .val (.ref a1)] [(.ref l1), (.ref l1)]) _
  obtain ⟨T4, X4, e4, st4⟩ := getF X3 hx hZ hown (host := "") (Or.inl (hw _ (List.mem_of_getElem? (i := 47) rfl))) Via.refl e3 ((F_size_l1.other W2 (Or.inr (slot_ne (Or.inl (hw _ (List.mem_of_getElem? (i := 48) rfl))) (Or.inl (hw _ (List.mem_of_getElem? (i := 57) rfl))) (by decide) (t := .int) (t' := (.object "com/example/carmine/carmine/Node")) (by decide) (by decide)))).other W3 (Or.inr (slot_ne (Or.inl (hw _ (List.mem_of_getElem? (i := 48) rfl))) (Or.inl (hw _ (List.mem_of_getElem? (i := 41) rfl))) (by decide) (t := .int) (t' := (.object "com/example/carmine/carmine/Node")) (by decide) (by decide)))) (g := (mkF m 30 #[.val (.ref l1), .val (.ref a1)] [(.ref l1), (.ref l1)])) rfl rfl (hb hby d12_30)
  refine go1 st4 ?_
  show Go p.tables e below T4 (mkF m 33 #[.val (.ref l1), .val (.ref a1)] [(.int s1), (.ref l1)]) _
  refine go1 (fun _ => XS.iconst X4.here hx rfl (hb hby d12_33)) ?_
  show Go p.tables e below T4 (mkF m 34 #[.val (.ref l1), .val (.ref a1)] [(.int (1 : Int32)), (.int s1), (.ref l1)]) _
  refine go1 (fun _ => XS.iadd X4.here hx rfl (hb hby d12_34) rfl) ?_
  show Go p.tables e below T4 (mkF m 35 #[.val (.ref l1), .val (.ref a1)] [(.int (s1 + (1 : Int32))), (.ref l1)]) _
  obtain ⟨T5, h5, X5, e5, W5, st5⟩ := putF X4 hx hZ hown (host := "") (Or.inl (hw _ (List.mem_of_getElem? (i := 47) rfl))) Via.refl e4 ((F_size_l1.other W2 (Or.inr (slot_ne (Or.inl (hw _ (List.mem_of_getElem? (i := 48) rfl))) (Or.inl (hw _ (List.mem_of_getElem? (i := 57) rfl))) (by decide) (t := .int) (t' := (.object "com/example/carmine/carmine/Node")) (by decide) (by decide)))).other W3 (Or.inr (slot_ne (Or.inl (hw _ (List.mem_of_getElem? (i := 48) rfl))) (Or.inl (hw _ (List.mem_of_getElem? (i := 41) rfl))) (by decide) (t := .int) (t' := (.object "com/example/carmine/carmine/Node")) (by decide) (by decide)))) ((E_l1.wr W2).wr W3) (Or.inl (hw _ (List.mem_of_getElem? (i := 48) rfl))) (hw _ (List.mem_of_getElem? (i := 29) rfl)) (ty := .int) (by decide) rfl rfl (g := (mkF m 35 #[.val (.ref l1), .val (.ref a1)] [(.int (s1 + (1 : Int32))), (.ref l1)])) rfl rfl (hb hby d12_35)
  refine go1 st5 ?_
  have Fw5 := ((F_size_l1.other W2 (Or.inr (slot_ne (Or.inl (hw _ (List.mem_of_getElem? (i := 48) rfl))) (Or.inl (hw _ (List.mem_of_getElem? (i := 57) rfl))) (by decide) (t := .int) (t' := (.object "com/example/carmine/carmine/Node")) (by decide) (by decide)))).other W3 (Or.inr (slot_ne (Or.inl (hw _ (List.mem_of_getElem? (i := 48) rfl))) (Or.inl (hw _ (List.mem_of_getElem? (i := 41) rfl))) (by decide) (t := .int) (t' := (.object "com/example/carmine/carmine/Node")) (by decide) (by decide)))).same W5
  have N5 := Fr.snoc X5 N3 g_l1
  show Go p.tables e below T5 (mkF m 38 #[.val (.ref l1), .val (.ref a1)] []) _
  refine goR X5 (BodyLoose.notSynchronized Bd) (v := none) (fun _ => rfl) (Q14a Z l1 a1 s1 h0 n0) (fun fs hr => X5.returnOut hx Bd.returns (hb hby d12_38) hr) (by decide) (by decide) ?_
  show Q14a Z l1 a1 s1 h0 n0 _ T5.heap _
  rw [e5]
  exact ⟨rfl, N5, ((((Keep.refl h0 [l1]).wr W2 (Or.inl (List.mem_of_getElem? (i := 0) rfl))).wr W3 (Or.inl (List.mem_of_getElem? (i := 0) rfl))).wr W5 (Or.inl (List.mem_of_getElem? (i := 0) rfl))), (((E_l1.wr W2).wr W3).wr W5), ((Fw2.other W3 (Or.inr (slot_ne (Or.inl (hw _ (List.mem_of_getElem? (i := 57) rfl))) (Or.inl (hw _ (List.mem_of_getElem? (i := 41) rfl))) (by decide) (t := (.object "com/example/carmine/carmine/Node")) (t' := (.object "com/example/carmine/carmine/Node")) (by decide) (by decide)))).other W5 (Or.inr (slot_ne (Or.inl (hw _ (List.mem_of_getElem? (i := 57) rfl))) (Or.inl (hw _ (List.mem_of_getElem? (i := 48) rfl))) (by decide) (t := (.object "com/example/carmine/carmine/Node")) (t' := .int) (by decide) (by decide)))), (Fw3.other W5 (Or.inr (slot_ne (Or.inl (hw _ (List.mem_of_getElem? (i := 41) rfl))) (Or.inl (hw _ (List.mem_of_getElem? (i := 48) rfl))) (by decide) (t := (.object "com/example/carmine/carmine/Node")) (t' := .int) (by decide) (by decide)))), Fw5⟩
theorem d12_15 : decode prog_10_method_2_code 15 = .ok (.aload_n 0, 1) := by decide +kernel
theorem d12_16 : decode prog_10_method_2_code 16 = .ok (.getfield 7, 3) := by decide +kernel
theorem d12_19 : decode prog_10_method_2_code 19 = .ok (.aload_n 1, 1) := by decide +kernel
theorem d12_20 : decode prog_10_method_2_code 20 = .ok (.putfield 16, 3) := by decide +kernel
theorem pn_14b : plainName "com/example/carmine/carmine/RedBlack$Links" = true := by first | (simp [plainName, overriddenIn]; done) | decide +kernel
theorem ef_14b (m : MethodId) (l1 : Addr) (a1 : Addr) : entryFrame m #[(.ref l1), (.ref a1)] 2 = mkF m 0 #[.val (.ref l1), .val (.ref a1)] [] := by first | (simp [entryFrame, mkF, argsToLocals, Value.category]; done) | rfl
def Q14b (Z : State) (l1 : Addr) (a1 : Addr) (s1 : Int32) (f1 : Addr) (x1 : Addr) (xl : Value) (xs : Int32) (xr : Value) (h0 : Heap) (n0 : Nat) (v : Option Value) (h : Heap) (L : List Loc) : Prop := v = none ∧ Fr n0 L ∧ Keep h0 h [l1, x1] ∧ Exa Z h l1 "com/example/carmine/carmine/RedBlack$Links" ∧ Exa Z h x1 "com/example/carmine/carmine/Node" ∧ Fld Z h l1 "com/example/carmine/carmine/RedBlack$Links" "first" "Lcom/example/carmine/carmine/Node;" (.ref f1) ∧ Fld Z h l1 "com/example/carmine/carmine/RedBlack$Links" "last" "Lcom/example/carmine/carmine/Node;" (.ref a1) ∧ Fld Z h l1 "com/example/carmine/carmine/RedBlack$Links" "size" "I" (.int (s1 + (1 : Int32))) ∧ Fld Z h x1 "com/example/carmine/carmine/Node" "left" "Lcom/example/carmine/carmine/Node;" xl ∧ Fld Z h x1 "com/example/carmine/carmine/Node" "sizeAndColours" "I" (.int xs) ∧ Fld Z h x1 "com/example/carmine/carmine/Node" "right" "Lcom/example/carmine/carmine/Node;" (.ref a1)
set_option maxRecDepth 65536 in
set_option maxHeartbeats 40000000 in
theorem rm14b (l : Launch) (Z : State) (a0 : Array Value) (hw : ∀ d ∈ tables_1, d.before a0 Z = true) (ws : List Jvm.Cond) (l1 : Addr) (a1 : Addr) (s1 : Int32) (f1 : Addr) (x1 : Addr) (xl : Value) (xs : Int32) (xr : Value) (h0 : Heap) (n0 : Nat) (Z0 : n0 ≤ h0.size) (F_first_l1 : Fld Z h0 l1 "com/example/carmine/carmine/RedBlack$Links" "first" "Lcom/example/carmine/carmine/Node;" (.ref f1)) (F_last_l1 : Fld Z h0 l1 "com/example/carmine/carmine/RedBlack$Links" "last" "Lcom/example/carmine/carmine/Node;" (.ref x1)) (F_size_l1 : Fld Z h0 l1 "com/example/carmine/carmine/RedBlack$Links" "size" "I" (.int s1)) (E_l1 : Exa Z h0 l1 "com/example/carmine/carmine/RedBlack$Links") (g_l1 : n0 ≤ l1) (E_x1 : Exa Z h0 x1 "com/example/carmine/carmine/Node") (g_x1 : n0 ≤ x1) (F_left_x1 : Fld Z h0 x1 "com/example/carmine/carmine/Node" "left" "Lcom/example/carmine/carmine/Node;" xl) (F_sizeAndColours_x1 : Fld Z h0 x1 "com/example/carmine/carmine/Node" "sizeAndColours" "I" (.int xs)) (F_right_x1 : Fld Z h0 x1 "com/example/carmine/carmine/Node" "right" "Lcom/example/carmine/carmine/Node;" xr) (hne : x1 ≠ l1) :
    MetFree l (⟨"com/example/carmine/carmine/RedBlack$Links", "add", "(Lcom/example/carmine/carmine/Node;)V"⟩ : MethodName) (head1 (Jvm.Cond.code (⟨"com/example/carmine/carmine/RedBlack$Links", "add", "(Lcom/example/carmine/carmine/Node;)V"⟩ : MethodName) prog_10_method_2_code 2 none :: ws) ({ frames := 0, cells := 0, slots := 0, locals := 0 } : Room)) (fun a U => a = #[(.ref l1), (.ref a1)] ∧ Z.Warmed39 U.vm ∧ U.heap = h0) (fun _ _ _ _ _ => True) (fun _ U o U' => ∃ v L, o = .returned v ∧ Q14b Z l1 a1 s1 f1 x1 xl xs xr h0 n0 v U'.heap L ∧ FrameEnd U o U' L ({ frames := 0, cells := 0, slots := 0, locals := 0 } : Room).cells ({ frames := 0, cells := 0, slots := 0, locals := 0 } : Room).slots) := by
  refine MetFree.of_bodySF (plainFor_of_name pn_14b) hisR ?_
  intro p e s m args below meth c s₁ Bd hml0 hP hK
  obtain ⟨rfl, hZ, hh⟩ := hP
  have hx := Bd.exec
  have hby := Bd.bytes
  have hml : c.maxLocals = 2 := hml0
  have hown : s.vm.findClass "com/example/carmine/carmine/RedBlack$Links" = some m.cls := findClass_of_methodNamed Bd.named
  have hnm := (name_of_methodNamed Bd.named Bd.method).1
  have X0 : Stand p l e ({ frames := 0, cells := 0, slots := 0, locals := 0 } : Room) s m #[(.ref l1), (.ref a1)] below meth c s₁ [] 0 0 := Stand.of_body Bd
  have e0 : s₁.heap = h0 := by rw [← hh, Bd.state]; rfl
  have N0 := Fr.nil n0
  refine goB (ef_14b m l1 a1) ?_
  show Go p.tables e below s₁ (mkF m 0 #[.val (.ref l1), .val (.ref a1)] []) _
  refine go1 (fun _ => XS.aloadN X0.here hx rfl (hb hby d12_0) rfl rfl) ?_
  show Go p.tables e below s₁ (mkF m 1 #[.val (.ref l1), .val (.ref a1)] [(.ref l1)]) _
  obtain ⟨T1, X1, e1, st1⟩ := getF X0 hx hZ hown (host := "") (Or.inl (hw _ (List.mem_of_getElem? (i := 40) rfl))) Via.refl e0 F_last_l1 (g := (mkF m 1 #[.val (.ref l1), .val (.ref a1)] [(.ref l1)])) rfl rfl (hb hby d12_1)
  refine go1 st1 ?_
  show Go p.tables e below T1 (mkF m 4 #[.val (.ref l1), .val (.ref a1)] [(.ref x1)]) _
  refine go1 (fun _ => XS.ifnonnullYes X1.here hx rfl (pc0 := 4) (pc' := 15) rfl (hb hby d12_4) rfl (by decide) (by decide)) ?_
  show Go p.tables e below T1 (mkF m 15 #[.val (.ref l1), .val (.ref a1)] []) _
  refine go1 (fun _ => XS.aloadN X1.here hx rfl (hb hby d12_15) rfl rfl) ?_
  show Go p.tables e below T1 (mkF m 16 #[.val (.ref l1), .val (.ref a1)] [(.ref l1)]) _
  obtain ⟨T2, X2, e2, st2⟩ := getF X1 hx hZ hown (host := "") (Or.inl (hw _ (List.mem_of_getElem? (i := 40) rfl))) Via.refl e1 F_last_l1 (g := (mkF m 16 #[.val (.ref l1), .val (.ref a1)] [(.ref l1)])) rfl rfl (hb hby d12_16)
  refine go1 st2 ?_
  show Go p.tables e below T2 (mkF m 19 #[.val (.ref l1), .val (.ref a1)] [(.ref x1)]) _
  refine go1 (fun _ => XS.aloadN X2.here hx rfl (hb hby d12_19) rfl rfl) ?_
  show Go p.tables e below T2 (mkF m 20 #[.val (.ref l1), .val (.ref a1)] [(.ref a1), (.ref x1)]) _
  obtain ⟨T3, h3, X3, e3, W3, st3⟩ := putF X2 hx hZ hown (host := "") (Or.inl (hw _ (List.mem_of_getElem? (i := 87) rfl))) Via.refl e2 F_right_x1 E_x1 (Or.inl (hw _ (List.mem_of_getElem? (i := 27) rfl))) (hw _ (List.mem_of_getElem? (i := 1) rfl)) (ty := (.object "com/example/carmine/carmine/Node")) (by decide) rfl rfl (g := (mkF m 20 #[.val (.ref l1), .val (.ref a1)] [(.ref a1), (.ref x1)])) rfl rfl (hb hby d12_20)
  refine go1 st3 ?_
  have Fw3 := F_right_x1.same W3
  have N3 := Fr.snoc X3 N0 g_x1
  show Go p.tables e below T3 (mkF m 23 #[.val (.ref l1), .val (.ref a1)] []) _
  refine go1 (fun _ => XS.aloadN X3.here hx rfl (hb hby d12_23) rfl rfl) ?_
  show Go p.tables e below T3 (mkF m 24 #[.val (.ref l1), .val (.ref a1)] [(.ref l1)]) _
  refine go1 (fun _ => XS.aloadN X3.here hx rfl (hb hby d12_24) rfl rfl) ?_
  show Go p.tables e below T3 (mkF m 25 #[.val (.ref l1), .val (.ref a1)] [(.ref a1), (.ref l1)]) _
  obtain ⟨T4, h4, X4, e4, W4, st4⟩ := putF X3 hx hZ hown (host := "") (Or.inl (hw _ (List.mem_of_getElem? (i := 40) rfl))) Via.refl e3 (F_last_l1.other W3 (Or.inl (Ne.symm hne))) (E_l1.wr W3) (Or.inl (hw _ (List.mem_of_getElem? (i := 41) rfl))) (hw _ (List.mem_of_getElem? (i := 29) rfl)) (ty := (.object "com/example/carmine/carmine/Node")) (by decide) rfl rfl (g := (mkF m 25 #[.val (.ref l1), .val (.ref a1)] [(.ref a1), (.ref l1)])) rfl rfl (hb hby d12_25)
  refine go1 st4 ?_
  have Fw4 := (F_last_l1.other W3 (Or.inl (Ne.symm hne))).same W4
  have N4 := Fr.snoc X4 N3 g_l1
  show Go p.tables e below T4 (mkF m 28 #[.val (.ref l1), .val (.ref a1)] []) _
  refine go1 (fun _ => XS.aloadN X4.here hx rfl (hb hby d12_28) rfl rfl) ?_
  show Go p.tables e below T4 (mkF m 29 #[.val (.ref l1), .val (.ref a1)] [(.ref l1)]) _
  refine go1 (fun _ => XS.dup X4.here hx rfl (hb hby d12_29) rfl rfl) ?_
  show Go p.tables e below T4 (mkF m 30 #[.val (.ref l1), .val (.ref a1)] [(.ref l1), (.ref l1)]) _
  obtain ⟨T5, X5, e5, st5⟩ := getF X4 hx hZ hown (host := "") (Or.inl (hw _ (List.mem_of_getElem? (i := 47) rfl))) Via.refl e4 ((F_size_l1.other W3 (Or.inl (Ne.symm hne))).other W4 (Or.inr (slot_ne (Or.inl (hw _ (List.mem_of_getElem? (i := 48) rfl))) (Or.inl (hw _ (List.mem_of_getElem? (i := 41) rfl))) (by decide) (t := .int) (t' := (.object "com/example/carmine/carmine/Node")) (by decide) (by decide)))) (g := (mkF m 30 #[.val (.ref l1), .val (.ref a1)] [(.ref l1), (.ref l1)])) rfl rfl (hb hby d12_30)
  refine go1 st5 ?_
  show Go p.tables e below T5 (mkF m 33 #[.val (.ref l1), .val (.ref a1)] [(.int s1), (.ref l1)]) _
  refine go1 (fun _ => XS.iconst X5.here hx rfl (hb hby d12_33)) ?_
  show Go p.tables e below T5 (mkF m 34 #[.val (.ref l1), .val (.ref a1)] [(.int (1 : Int32)), (.int s1), (.ref l1)]) _
  refine go1 (fun _ => XS.iadd X5.here hx rfl (hb hby d12_34) rfl) ?_
  show Go p.tables e below T5 (mkF m 35 #[.val (.ref l1), .val (.ref a1)] [(.int (s1 + (1 : Int32))), (.ref l1)]) _
  obtain ⟨T6, h6, X6, e6, W6, st6⟩ := putF X5 hx hZ hown (host := "") (Or.inl (hw _ (List.mem_of_getElem? (i := 47) rfl))) Via.refl e5 ((F_size_l1.other W3 (Or.inl (Ne.symm hne))).other W4 (Or.inr (slot_ne (Or.inl (hw _ (List.mem_of_getElem? (i := 48) rfl))) (Or.inl (hw _ (List.mem_of_getElem? (i := 41) rfl))) (by decide) (t := .int) (t' := (.object "com/example/carmine/carmine/Node")) (by decide) (by decide)))) ((E_l1.wr W3).wr W4) (Or.inl (hw _ (List.mem_of_getElem? (i := 48) rfl))) (hw _ (List.mem_of_getElem? (i := 29) rfl)) (ty := .int) (by decide) rfl rfl (g := (mkF m 35 #[.val (.ref l1), .val (.ref a1)] [(.int (s1 + (1 : Int32))), (.ref l1)])) rfl rfl (hb hby d12_35)
  refine go1 st6 ?_
  have Fw6 := ((F_size_l1.other W3 (Or.inl (Ne.symm hne))).other W4 (Or.inr (slot_ne (Or.inl (hw _ (List.mem_of_getElem? (i := 48) rfl))) (Or.inl (hw _ (List.mem_of_getElem? (i := 41) rfl))) (by decide) (t := .int) (t' := (.object "com/example/carmine/carmine/Node")) (by decide) (by decide)))).same W6
  have N6 := Fr.snoc X6 N4 g_l1
  show Go p.tables e below T6 (mkF m 38 #[.val (.ref l1), .val (.ref a1)] []) _
  refine goR X6 (BodyLoose.notSynchronized Bd) (v := none) (fun _ => rfl) (Q14b Z l1 a1 s1 f1 x1 xl xs xr h0 n0) (fun fs hr => X6.returnOut hx Bd.returns (hb hby d12_38) hr) (by decide) (by decide) ?_
  show Q14b Z l1 a1 s1 f1 x1 xl xs xr h0 n0 _ T6.heap _
  rw [e6]
  exact ⟨rfl, N6, ((((Keep.refl h0 [l1, x1]).wr W3 (Or.inl (List.mem_of_getElem? (i := 1) rfl))).wr W4 (Or.inl (List.mem_of_getElem? (i := 0) rfl))).wr W6 (Or.inl (List.mem_of_getElem? (i := 0) rfl))), (((E_l1.wr W3).wr W4).wr W6), (((E_x1.wr W3).wr W4).wr W6), (((F_first_l1.other W3 (Or.inl (Ne.symm hne))).other W4 (Or.inr (slot_ne (Or.inl (hw _ (List.mem_of_getElem? (i := 57) rfl))) (Or.inl (hw _ (List.mem_of_getElem? (i := 41) rfl))) (by decide) (t := (.object "com/example/carmine/carmine/Node")) (t' := (.object "com/example/carmine/carmine/Node")) (by decide) (by decide)))).other W6 (Or.inr (slot_ne (Or.inl (hw _ (List.mem_of_getElem? (i := 57) rfl))) (Or.inl (hw _ (List.mem_of_getElem? (i := 48) rfl))) (by decide) (t := (.object "com/example/carmine/carmine/Node")) (t' := .int) (by decide) (by decide)))), (Fw4.other W6 (Or.inr (slot_ne (Or.inl (hw _ (List.mem_of_getElem? (i := 41) rfl))) (Or.inl (hw _ (List.mem_of_getElem? (i := 48) rfl))) (by decide) (t := (.object "com/example/carmine/carmine/Node")) (t' := .int) (by decide) (by decide)))), Fw6, (((F_left_x1.other W3 (Or.inr (slot_ne (Or.inl (hw _ (List.mem_of_getElem? (i := 109) rfl))) (Or.inl (hw _ (List.mem_of_getElem? (i := 27) rfl))) (by decide) (t := (.object "com/example/carmine/carmine/Node")) (t' := (.object "com/example/carmine/carmine/Node")) (by decide) (by decide)))).other W4 (Or.inl hne)).other W6 (Or.inl hne)), (((F_sizeAndColours_x1.other W3 (Or.inr (slot_ne (Or.inl (hw _ (List.mem_of_getElem? (i := 21) rfl))) (Or.inl (hw _ (List.mem_of_getElem? (i := 27) rfl))) (by decide) (t := .int) (t' := (.object "com/example/carmine/carmine/Node")) (by decide) (by decide)))).other W4 (Or.inl hne)).other W6 (Or.inl hne)), ((Fw3.other W4 (Or.inl hne)).other W6 (Or.inl hne))⟩
theorem d16_0 : decode prog_7_method_11_code 0 = .ok (.aload_n 0, 1) := by decide +kernel
theorem d16_1 : decode prog_7_method_11_code 1 = .ok (.iload_n 1, 1) := by decide +kernel
theorem d16_2 : decode prog_7_method_11_code 2 = .ok (.ifCond .eq 8, 3) := by decide +kernel
theorem d16_5 : decode prog_7_method_11_code 5 = .ok (.ldc 35, 2) := by decide +kernel
theorem d16_7 : decode prog_7_method_11_code 7 = .ok (.goto 4, 3) := by decide +kernel
theorem d16_10 : decode prog_7_method_11_code 10 = .ok (.iconst 0, 1) := by decide +kernel
theorem d16_11 : decode prog_7_method_11_code 11 = .ok (.iload_n 2, 1) := by decide +kernel
theorem d16_12 : decode prog_7_method_11_code 12 = .ok (.ifCond .eq 8, 3) := by decide +kernel
theorem d16_15 : decode prog_7_method_11_code 15 = .ok (.ldc 36, 2) := by decide +kernel
theorem d16_17 : decode prog_7_method_11_code 17 = .ok (.goto 4, 3) := by decide +kernel
theorem d16_20 : decode prog_7_method_11_code 20 = .ok (.iconst 0, 1) := by decide +kernel
theorem d16_21 : decode prog_7_method_11_code 21 = .ok (.ior, 1) := by decide +kernel
theorem d16_22 : decode prog_7_method_11_code 22 = .ok (.iload_n 3, 1) := by decide +kernel
theorem d16_23 : decode prog_7_method_11_code 23 = .ok (.ior, 1) := by decide +kernel
theorem d16_24 : decode prog_7_method_11_code 24 = .ok (.putfield 16, 3) := by decide +kernel
theorem d16_27 : decode prog_7_method_11_code 27 = .ok (.return_, 1) := by decide +kernel
theorem pn_16 : plainName "com/example/carmine/carmine/Node" = true := by first | (simp [plainName, overriddenIn]; done) | decide +kernel
theorem ef_16 (m : MethodId) (b1 : Addr) (p1 : Int32) (p2 : Int32) (p3 : Int32) : entryFrame m #[(.ref b1), (.int p1), (.int p2), (.int p3)] 4 = mkF m 0 #[.val (.ref b1), .val (.int p1), .val (.int p2), .val (.int p3)] [] := by first | (simp [entryFrame, mkF, argsToLocals, Value.category]; done) | rfl
def Q16 (Z : State) (b1 : Addr) (p1 : Int32) (p2 : Int32) (p3 : Int32) (f1 : Int32) (xl : Value) (xr : Value) (h0 : Heap) (n0 : Nat) (v : Option Value) (h : Heap) (L : List Loc) : Prop := v = none ∧ Fr n0 L ∧ Keep h0 h [b1] ∧ Exa Z h b1 "com/example/carmine/carmine/Node" ∧ Fld Z h b1 "com/example/carmine/carmine/Node" "left" "Lcom/example/carmine/carmine/Node;" xl ∧ Fld Z h b1 "com/example/carmine/carmine/Node" "sizeAndColours" "I" (.int (((if p1 = (0 : Int32) then (0 : Int32) else (-2147483648 : Int32)) ||| (if p2 = (0 : Int32) then (0 : Int32) else (1073741824 : Int32))) ||| p3)) ∧ Fld Z h b1 "com/example/carmine/carmine/Node" "right" "Lcom/example/carmine/carmine/Node;" xr
set_option maxRecDepth 65536 in
set_option maxHeartbeats 40000000 in
theorem rm16 (l : Launch) (Z : State) (a0 : Array Value) (hw : ∀ d ∈ tables_1, d.before a0 Z = true) (ws : List Jvm.Cond) (b1 : Addr) (p1 : Int32) (p2 : Int32) (p3 : Int32) (f1 : Int32) (xl : Value) (xr : Value) (h0 : Heap) (n0 : Nat) (Z0 : n0 ≤ h0.size) (F_left_b1 : Fld Z h0 b1 "com/example/carmine/carmine/Node" "left" "Lcom/example/carmine/carmine/Node;" xl) (F_sizeAndColours_b1 : Fld Z h0 b1 "com/example/carmine/carmine/Node" "sizeAndColours" "I" (.int f1)) (F_right_b1 : Fld Z h0 b1 "com/example/carmine/carmine/Node" "right" "Lcom/example/carmine/carmine/Node;" xr) (E_b1 : Exa Z h0 b1 "com/example/carmine/carmine/Node") (g_b1 : n0 ≤ b1) :
    MetFree l (⟨"com/example/carmine/carmine/Node", "setColoursAndSize", "(ZZI)V"⟩ : MethodName) (head1 (Jvm.Cond.code (⟨"com/example/carmine/carmine/Node", "setColoursAndSize", "(ZZI)V"⟩ : MethodName) prog_7_method_11_code 4 none :: ws) ({ frames := 0, cells := 0, slots := 0, locals := 0 } : Room)) (fun a U => a = #[(.ref b1), (.int p1), (.int p2), (.int p3)] ∧ Z.Warmed39 U.vm ∧ U.heap = h0) (fun _ _ _ _ _ => True) (fun _ U o U' => ∃ v L, o = .returned v ∧ Q16 Z b1 p1 p2 p3 f1 xl xr h0 n0 v U'.heap L ∧ FrameEnd U o U' L ({ frames := 0, cells := 0, slots := 0, locals := 0 } : Room).cells ({ frames := 0, cells := 0, slots := 0, locals := 0 } : Room).slots) := by
  refine MetFree.of_bodySF (plainFor_of_name pn_16) hisR ?_
  intro p e s m args below meth c s₁ Bd hml0 hP hK
  obtain ⟨rfl, hZ, hh⟩ := hP
  have hx := Bd.exec
  have hby := Bd.bytes
  have hml : c.maxLocals = 4 := hml0
  have hown : s.vm.findClass "com/example/carmine/carmine/Node" = some m.cls := findClass_of_methodNamed Bd.named
  have hnm := (name_of_methodNamed Bd.named Bd.method).1
  have X0 : Stand p l e ({ frames := 0, cells := 0, slots := 0, locals := 0 } : Room) s m #[(.ref b1), (.int p1), (.int p2), (.int p3)] below meth c s₁ [] 0 0 := Stand.of_body Bd
  have e0 : s₁.heap = h0 := by rw [← hh, Bd.state]; rfl
  have N0 := Fr.nil n0
  refine goB (ef_16 m b1 p1 p2 p3) ?_
  show Go p.tables e below s₁ (mkF m 0 #[.val (.ref b1), .val (.int p1), .val (.int p2), .val (.int p3)] []) _
  refine go1 (fun _ => XS.aloadN X0.here hx rfl (hb hby d16_0) rfl rfl) ?_
  show Go p.tables e below s₁ (mkF m 1 #[.val (.ref b1), .val (.int p1), .val (.int p2), .val (.int p3)] [(.ref b1)]) _
  refine go1 (fun _ => XS.iloadN X0.here hx rfl (hb hby d16_1) rfl) ?_
  show Go p.tables e below s₁ (mkF m 2 #[.val (.ref b1), .val (.int p1), .val (.int p2), .val (.int p3)] [(.int p1), (.ref b1)]) _
  refine go1 (T' := s₁) (g' := (mkF m 11 #[.val (.ref b1), .val (.int p1), .val (.int p2), .val (.int p3)] [(.int (if p1 = (0 : Int32) then (0 : Int32) else (-2147483648 : Int32))), (.ref b1)])) (fun t k => ?_) ?_
  · by_cases hd1 : p1 = (0 : Int32)
    · skip
      rw [(if_pos hd1 : (if p1 = (0 : Int32) then (0 : Int32) else (-2147483648 : Int32)) = (0 : Int32))] at k
      show Steps p.tables e below (s₁.setTop (mkF m 2 #[.val (.ref b1), .val (.int p1), .val (.int p2), .val (.int p3)] [(.int p1), (.ref b1)])) _
      refine XS.ifYes X0.here hx rfl (pc0 := 2) (pc' := 10) rfl (hb hby d16_2) rfl ((if0 _ _).trans (teq hd1).1) (by decide) (by decide) ?_
      show Steps p.tables e below (s₁.setTop (mkF m 10 #[.val (.ref b1), .val (.int p1), .val (.int p2), .val (.int p3)] [(.ref b1)])) _
      refine XS.iconst X0.here hx rfl (hb hby d16_10) ?_
      show Steps p.tables e below (s₁.setTop (mkF m 11 #[.val (.ref b1), .val (.int p1), .val (.int p2), .val (.int p3)] [(.int (0 : Int32)), (.ref b1)])) _
      exact k
    · skip
      rw [(if_neg hd1 : (if p1 = (0 : Int32) then (0 : Int32) else (-2147483648 : Int32)) = (-2147483648 : Int32))] at k
      show Steps p.tables e below (s₁.setTop (mkF m 2 #[.val (.ref b1), .val (.int p1), .val (.int p2), .val (.int p3)] [(.int p1), (.ref b1)])) _
      refine XS.ifNo X0.here hx rfl (hb hby d16_2) rfl ((if0 _ _).trans (feq hd1).1) ?_
      show Steps p.tables e below (s₁.setTop (mkF m 5 #[.val (.ref b1), .val (.int p1), .val (.int p2), .val (.int p3)] [(.ref b1)])) _
      refine X0.ldcInt hx hown (mvT hZ (hw _ (List.mem_of_getElem? (i := 129) rfl))) (g := (mkF m 5 #[.val (.ref b1), .val (.int p1), .val (.int p2), .val (.int p3)] [(.ref b1)])) rfl (hb hby d16_5) _ ?_
      show Steps p.tables e below (s₁.setTop (mkF m 7 #[.val (.ref b1), .val (.int p1), .val (.int p2), .val (.int p3)] [(.int (-2147483648 : Int32)), (.ref b1)])) _
      refine XS.goto X0.here hx rfl (pc0 := 7) (pc' := 11) rfl (hb hby d16_7) (by decide) (by decide) ?_
      show Steps p.tables e below (s₁.setTop (mkF m 11 #[.val (.ref b1), .val (.int p1), .val (.int p2), .val (.int p3)] [(.int (-2147483648 : Int32)), (.ref b1)])) _
      exact k
  show Go p.tables e below s₁ (mkF m 11 #[.val (.ref b1), .val (.int p1), .val (.int p2), .val (.int p3)] [(.int (if p1 = (0 : Int32) then (0 : Int32) else (-2147483648 : Int32))), (.ref b1)]) _
  refine go1 (fun _ => XS.iloadN X0.here hx rfl (hb hby d16_11) rfl) ?_
  show Go p.tables e below s₁ (mkF m 12 #[.val (.ref b1), .val (.int p1), .val (.int p2), .val (.int p3)] [(.int p2), (.int (if p1 = (0 : Int32) then (0 : Int32) else (-2147483648 : Int32))), (.ref b1)]) _
  refine go1 (T' := s₁) (g' := (mkF m 21 #[.val (.ref b1), .val (.int p1), .val (.int p2), .val (.int p3)] [(.int (if p2 = (0 : Int32) then (0 : Int32) else (1073741824 : Int32))), (.int (if p1 = (0 : Int32) then (0 : Int32) else (-2147483648 : Int32))), (.ref b1)])) (fun t k => ?_) ?_
  · by_cases hd2 : p2 = (0 : Int32)
    · skip
      rw [(if_pos hd2 : (if p2 = (0 : Int32) then (0 : Int32) else (1073741824 : Int32)) = (0 : Int32))] at k
      show Steps p.tables e below (s₁.setTop (mkF m 12 #[.val (.ref b1), .val (.int p1), .val (.int p2), .val (.int p3)] [(.int p2), (.int (if p1 = (0 : Int32) then (0 : Int32) else (-2147483648 : Int32))), (.ref b1)])) _
      refine XS.ifYes X0.here hx rfl (pc0 := 12) (pc' := 20) rfl (hb hby d16_12) rfl ((if0 _ _).trans (teq hd2).1) (by decide) (by decide) ?_
      show Steps p.tables e below (s₁.setTop (mkF m 20 #[.val (.ref b1), .val (.int p1), .val (.int p2), .val (.int p3)] [(.int (if p1 = (0 : Int32) then (0 : Int32) else (-2147483648 : Int32))), (.ref b1)])) _
      refine XS.iconst X0.here hx rfl (hb hby d16_20) ?_
      show Steps p.tables e below (s₁.setTop (mkF m 21 #[.val (.ref b1), .val (.int p1), .val (.int p2), .val (.int p3)] [(.int (0 : Int32)), (.int (if p1 = (0 : Int32) then (0 : Int32) else (-2147483648 : Int32))), (.ref b1)])) _
      exact k
    · skip
      rw [(if_neg hd2 : (if p2 = (0 : Int32) then (0 : Int32) else (1073741824 : Int32)) = (1073741824 : Int32))] at k
      show Steps p.tables e below (s₁.setTop (mkF m 12 #[.val (.ref b1), .val (.int p1), .val (.int p2), .val (.int p3)] [(.int p2), (.int (if p1 = (0 : Int32) then (0 : Int32) else (-2147483648 : Int32))), (.ref b1)])) _
      refine XS.ifNo X0.here hx rfl (hb hby d16_12) rfl ((if0 _ _).trans (feq hd2).1) ?_
      show Steps p.tables e below (s₁.setTop (mkF m 15 #[.val (.ref b1), .val (.int p1), .val (.int p2), .val (.int p3)] [(.int (if p1 = (0 : Int32) then (0 : Int32) else (-2147483648 : Int32))), (.ref b1)])) _
      refine X0.ldcInt hx hown (mvT hZ (hw _ (List.mem_of_getElem? (i := 110) rfl))) (g := (mkF m 15 #[.val (.ref b1), .val (.int p1), .val (.int p2), .val (.int p3)] [(.int (if p1 = (0 : Int32) then (0 : Int32) else (-2147483648 : Int32))), (.ref b1)])) rfl (hb hby d16_15) _ ?_
      show Steps p.tables e below (s₁.setTop (mkF m 17 #[.val (.ref b1), .val (.int p1), .val (.int p2), .val (.int p3)] [(.int (1073741824 : Int32)), (.int (if p1 = (0 : Int32) then (0 : Int32) else (-2147483648 : Int32))), (.ref b1)])) _
      refine XS.goto X0.here hx rfl (pc0 := 17) (pc' := 21) rfl (hb hby d16_17) (by decide) (by decide) ?_
      show Steps p.tables e below (s₁.setTop (mkF m 21 #[.val (.ref b1), .val (.int p1), .val (.int p2), .val (.int p3)] [(.int (1073741824 : Int32)), (.int (if p1 = (0 : Int32) then (0 : Int32) else (-2147483648 : Int32))), (.ref b1)])) _
      exact k
  show Go p.tables e below s₁ (mkF m 21 #[.val (.ref b1), .val (.int p1), .val (.int p2), .val (.int p3)] [(.int (if p2 = (0 : Int32) then (0 : Int32) else (1073741824 : Int32))), (.int (if p1 = (0 : Int32) then (0 : Int32) else (-2147483648 : Int32))), (.ref b1)]) _
  refine go1 (fun _ => XS.ior X0.here hx rfl (hb hby d16_21) rfl) ?_
  show Go p.tables e below s₁ (mkF m 22 #[.val (.ref b1), .val (.int p1), .val (.int p2), .val (.int p3)] [(.int ((if p1 = (0 : Int32) then (0 : Int32) else (-2147483648 : Int32)) ||| (if p2 = (0 : Int32) then (0 : Int32) else (1073741824 : Int32)))), (.ref b1)]) _
  refine go1 (fun _ => XS.iloadN X0.here hx rfl (hb hby d16_22) rfl) ?_
  show Go p.tables e below s₁ (mkF m 23 #[.val (.ref b1), .val (.int p1), .val (.int p2), .val (.int p3)] [(.int p3), (.int ((if p1 = (0 : Int32) then (0 : Int32) else (-2147483648 : Int32)) ||| (if p2 = (0 : Int32) then (0 : Int32) else (1073741824 : Int32)))), (.ref b1)]) _
  refine go1 (fun _ => XS.ior X0.here hx rfl (hb hby d16_23) rfl) ?_
  show Go p.tables e below s₁ (mkF m 24 #[.val (.ref b1), .val (.int p1), .val (.int p2), .val (.int p3)] [(.int (((if p1 = (0 : Int32) then (0 : Int32) else (-2147483648 : Int32)) ||| (if p2 = (0 : Int32) then (0 : Int32) else (1073741824 : Int32))) ||| p3)), (.ref b1)]) _
  obtain ⟨T3, h3, X3, e3, W3, st3⟩ := putF X0 hx hZ hown (host := "") (Or.inl (hw _ (List.mem_of_getElem? (i := 20) rfl))) Via.refl e0 F_sizeAndColours_b1 E_b1 (Or.inl (hw _ (List.mem_of_getElem? (i := 21) rfl))) (hw _ (List.mem_of_getElem? (i := 1) rfl)) (ty := .int) (by decide) rfl rfl (g := (mkF m 24 #[.val (.ref b1), .val (.int p1), .val (.int p2), .val (.int p3)] [(.int (((if p1 = (0 : Int32) then (0 : Int32) else (-2147483648 : Int32)) ||| (if p2 = (0 : Int32) then (0 : Int32) else (1073741824 : Int32))) ||| p3)), (.ref b1)])) rfl rfl (hb hby d16_24)
  refine go1 st3 ?_
  have Fw3 := F_sizeAndColours_b1.same W3
  have N3 := Fr.snoc X3 N0 g_b1
  show Go p.tables e below T3 (mkF m 27 #[.val (.ref b1), .val (.int p1), .val (.int p2), .val (.int p3)] []) _
  refine goR X3 (BodyLoose.notSynchronized Bd) (v := none) (fun _ => rfl) (Q16 Z b1 p1 p2 p3 f1 xl xr h0 n0) (fun fs hr => X3.returnOut hx Bd.returns (hb hby d16_27) hr) (by decide) (by decide) ?_
  show Q16 Z b1 p1 p2 p3 f1 xl xr h0 n0 _ T3.heap _
  rw [e3]
  exact ⟨rfl, N3, ((Keep.refl h0 [b1]).wr W3 (Or.inl (List.mem_of_getElem? (i := 0) rfl))), (E_b1.wr W3), (F_left_b1.other W3 (Or.inr (slot_ne (Or.inl (hw _ (List.mem_of_getElem? (i := 109) rfl))) (Or.inl (hw _ (List.mem_of_getElem? (i := 21) rfl))) (by decide) (t := (.object "com/example/carmine/carmine/Node")) (t' := .int) (by decide) (by decide)))), Fw3, (F_right_b1.other W3 (Or.inr (slot_ne (Or.inl (hw _ (List.mem_of_getElem? (i := 27) rfl))) (Or.inl (hw _ (List.mem_of_getElem? (i := 21) rfl))) (by decide) (t := (.object "com/example/carmine/carmine/Node")) (t' := .int) (by decide) (by decide))))⟩
theorem d11_0 : decode jdk_33_method_47_code 0 = .ok (.iload_n 0, 1) := by decide +kernel
theorem d11_1 : decode jdk_33_method_47_code 1 = .ok (.ifCond .gt 14, 3) := by decide +kernel
theorem d11_4 : decode jdk_33_method_47_code 4 = .ok (.iload_n 0, 1) := by decide +kernel
theorem d11_5 : decode jdk_33_method_47_code 5 = .ok (.ifCond .ne 8, 3) := by decide +kernel
theorem d11_8 : decode jdk_33_method_47_code 8 = .ok (.bipush 32, 2) := by decide +kernel
theorem d11_10 : decode jdk_33_method_47_code 10 = .ok (.goto 4, 3) := by decide +kernel
theorem d11_14 : decode jdk_33_method_47_code 14 = .ok (.ireturn, 1) := by decide +kernel
theorem pn_11_0 : plainName "java/lang/Integer" = true := by first | (simp [plainName, overriddenIn]; done) | decide +kernel
theorem ef_11_0 (m : MethodId)  : entryFrame m #[(.int (0 : Int32))] 2 = mkF m 0 #[.val (.int (0 : Int32)), .unset] [] := by first | (simp [entryFrame, mkF, argsToLocals, Value.category]; done) | rfl
def Q11_0 (Z : State)  (h0 : Heap) (n0 : Nat) (v : Option Value) (h : Heap) (L : List Loc) : Prop := v = some (.int (32 : Int32)) ∧ Fr n0 L ∧ h = h0
set_option maxRecDepth 65536 in
set_option maxHeartbeats 40000000 in
theorem rm11_0 (l : Launch) (Z : State) (a0 : Array Value) (hw : ∀ d ∈ tables_1, d.before a0 Z = true) (ws : List Jvm.Cond)  (h0 : Heap) (n0 : Nat) (Z0 : n0 ≤ h0.size) :
    MetFree l (⟨"java/lang/Integer", "numberOfLeadingZeros", "(I)I"⟩ : MethodName) (head1 (Jvm.Cond.code (⟨"java/lang/Integer", "numberOfLeadingZeros", "(I)I"⟩ : MethodName) jdk_33_method_47_code 2 (some .int) :: ws) ({ frames := 0, cells := 0, slots := 0, locals := 0 } : Room)) (fun a U => a = #[(.int (0 : Int32))] ∧ Z.Warmed39 U.vm ∧ U.heap = h0) (fun _ _ _ _ _ => True) (fun _ U o U' => ∃ v L, o = .returned v ∧ Q11_0 Z  h0 n0 v U'.heap L ∧ FrameEnd U o U' L ({ frames := 0, cells := 0, slots := 0, locals := 0 } : Room).cells ({ frames := 0, cells := 0, slots := 0, locals := 0 } : Room).slots) := by
  refine MetFree.of_bodySF (plainFor_of_name pn_11_0) hisR ?_
  intro p e s m args below meth c s₁ Bd hml0 hP hK
  obtain ⟨rfl, hZ, hh⟩ := hP
  have hx := Bd.exec
  have hby := Bd.bytes
  have hml : c.maxLocals = 2 := hml0
  have hown : s.vm.findClass "java/lang/Integer" = some m.cls := findClass_of_methodNamed Bd.named
  have hnm := (name_of_methodNamed Bd.named Bd.method).1
  have X0 : Stand p l e ({ frames := 0, cells := 0, slots := 0, locals := 0 } : Room) s m #[(.int (0 : Int32))] below meth c s₁ [] 0 0 := Stand.of_body Bd
  have e0 : s₁.heap = h0 := by rw [← hh, Bd.state]; rfl
  have N0 := Fr.nil n0
  refine goB (ef_11_0 m ) ?_
  show Go p.tables e below s₁ (mkF m 0 #[.val (.int (0 : Int32)), .unset] []) _
  refine go1 (fun _ => XS.iloadN X0.here hx rfl (hb hby d11_0) rfl) ?_
  show Go p.tables e below s₁ (mkF m 1 #[.val (.int (0 : Int32)), .unset] [(.int (0 : Int32))]) _
  refine go1 (fun _ => XS.ifNo X0.here hx rfl (hb hby d11_1) rfl ((if0 _ _).trans (flt (by decide : ¬ ((0 : Int32) < (0 : Int32)))).2.2.1)) ?_
  show Go p.tables e below s₁ (mkF m 4 #[.val (.int (0 : Int32)), .unset] []) _
  refine go1 (fun _ => XS.iloadN X0.here hx rfl (hb hby d11_4) rfl) ?_
  show Go p.tables e below s₁ (mkF m 5 #[.val (.int (0 : Int32)), .unset] [(.int (0 : Int32))]) _
  refine go1 (fun _ => XS.ifNo X0.here hx rfl (hb hby d11_5) rfl ((if0 _ _).trans (teq (by decide : (0 : Int32) = (0 : Int32))).2)) ?_
  show Go p.tables e below s₁ (mkF m 8 #[.val (.int (0 : Int32)), .unset] []) _
  refine go1 (fun _ => XS.bipush X0.here hx rfl (hb hby d11_8)) ?_
  show Go p.tables e below s₁ (mkF m 10 #[.val (.int (0 : Int32)), .unset] [(.int (32 : Int32))]) _
  refine go1 (fun _ => XS.goto X0.here hx rfl (pc0 := 10) (pc' := 14) rfl (hb hby d11_10) (by decide) (by decide)) ?_
  show Go p.tables e below s₁ (mkF m 14 #[.val (.int (0 : Int32)), .unset] [(.int (32 : Int32))]) _
  refine goR X0 (BodyLoose.notSynchronized Bd) (v := (some (.int (32 : Int32)))) (fun h => by rw [Bd.returns] at h; cases h) (Q11_0 Z  h0 n0) (fun fs hr => retI X0 hx Bd.returns (hb hby d11_14) hr) (by decide) (by decide) ?_
  show Q11_0 Z  h0 n0 _ s₁.heap _
  rw [e0]
  exact ⟨(congrArg (fun z => some (Value.int z)) (by decide : (32 : Int32) = (32 : Int32))), N0, rfl⟩
theorem d11_15 : decode jdk_33_method_47_code 15 = .ok (.bipush 31, 2) := by decide +kernel
theorem d11_17 : decode jdk_33_method_47_code 17 = .ok (.istore_n 1, 1) := by decide +kernel
theorem d11_18 : decode jdk_33_method_47_code 18 = .ok (.iload_n 0, 1) := by decide +kernel
theorem d11_19 : decode jdk_33_method_47_code 19 = .ok (.ldc_w 264, 3) := by decide +kernel
theorem d11_22 : decode jdk_33_method_47_code 22 = .ok (.if_icmp .lt 11, 3) := by decide +kernel
theorem d11_33 : decode jdk_33_method_47_code 33 = .ok (.iload_n 0, 1) := by decide +kernel
theorem d11_34 : decode jdk_33_method_47_code 34 = .ok (.sipush 256, 3) := by decide +kernel
theorem d11_37 : decode jdk_33_method_47_code 37 = .ok (.if_icmp .lt 11, 3) := by decide +kernel
theorem d11_48 : decode jdk_33_method_47_code 48 = .ok (.iload_n 0, 1) := by decide +kernel
theorem d11_49 : decode jdk_33_method_47_code 49 = .ok (.bipush 16, 2) := by decide +kernel
theorem d11_51 : decode jdk_33_method_47_code 51 = .ok (.if_icmp .lt 10, 3) := by decide +kernel
theorem d11_61 : decode jdk_33_method_47_code 61 = .ok (.iload_n 0, 1) := by decide +kernel
theorem d11_62 : decode jdk_33_method_47_code 62 = .ok (.iconst 4, 1) := by decide +kernel
theorem d11_63 : decode jdk_33_method_47_code 63 = .ok (.if_icmp .lt 10, 3) := by decide +kernel
theorem d11_73 : decode jdk_33_method_47_code 73 = .ok (.iload_n 1, 1) := by decide +kernel
theorem d11_74 : decode jdk_33_method_47_code 74 = .ok (.iload_n 0, 1) := by decide +kernel
theorem d11_75 : decode jdk_33_method_47_code 75 = .ok (.iconst 1, 1) := by decide +kernel
theorem d11_76 : decode jdk_33_method_47_code 76 = .ok (.iushr, 1) := by decide +kernel
theorem d11_77 : decode jdk_33_method_47_code 77 = .ok (.isub, 1) := by decide +kernel
theorem d11_78 : decode jdk_33_method_47_code 78 = .ok (.ireturn, 1) := by decide +kernel
theorem pn_11_1 : plainName "java/lang/Integer" = true := by first | (simp [plainName, overriddenIn]; done) | decide +kernel
theorem ef_11_1 (m : MethodId)  : entryFrame m #[(.int (1 : Int32))] 2 = mkF m 0 #[.val (.int (1 : Int32)), .unset] [] := by first | (simp [entryFrame, mkF, argsToLocals, Value.category]; done) | rfl
def Q11_1 (Z : State)  (h0 : Heap) (n0 : Nat) (v : Option Value) (h : Heap) (L : List Loc) : Prop := v = some (.int (31 : Int32)) ∧ Fr n0 L ∧ h = h0
set_option maxRecDepth 65536 in
set_option maxHeartbeats 40000000 in
theorem rm11_1 (l : Launch) (Z : State) (a0 : Array Value) (hw : ∀ d ∈ tables_1, d.before a0 Z = true) (ws : List Jvm.Cond)  (h0 : Heap) (n0 : Nat) (Z0 : n0 ≤ h0.size) :
    MetFree l (⟨"java/lang/Integer", "numberOfLeadingZeros", "(I)I"⟩ : MethodName) (head1 (Jvm.Cond.code (⟨"java/lang/Integer", "numberOfLeadingZeros", "(I)I"⟩ : MethodName) jdk_33_method_47_code 2 (some .int) :: ws) ({ frames := 0, cells := 0, slots := 0, locals := 0 } : Room)) (fun a U => a = #[(.int (1 : Int32))] ∧ Z.Warmed39 U.vm ∧ U.heap = h0) (fun _ _ _ _ _ => True) (fun _ U o U' => ∃ v L, o = .returned v ∧ Q11_1 Z  h0 n0 v U'.heap L ∧ FrameEnd U o U' L ({ frames := 0, cells := 0, slots := 0, locals := 0 } : Room).cells ({ frames := 0, cells := 0, slots := 0, locals := 0 } : Room).slots) := by
  refine MetFree.of_bodySF (plainFor_of_name pn_11_1) hisR ?_
  intro p e s m args below meth c s₁ Bd hml0 hP hK
  obtain ⟨rfl, hZ, hh⟩ := hP
  have hx := Bd.exec
  have hby := Bd.bytes
  have hml : c.maxLocals = 2 := hml0
  have hown : s.vm.findClass "java/lang/Integer" = some m.cls := findClass_of_methodNamed Bd.named
  have hnm := (name_of_methodNamed Bd.named Bd.method).1
  have X0 : Stand p l e ({ frames := 0, cells := 0, slots := 0, locals := 0 } : Room) s m #[(.int (1 : Int32))] below meth c s₁ [] 0 0 := Stand.of_body Bd
  have e0 : s₁.heap = h0 := by rw [← hh, Bd.state]; rfl
  have N0 := Fr.nil n0
  refine goB (ef_11_1 m ) ?_
  show Go p.tables e below s₁ (mkF m 0 #[.val (.int (1 : Int32)), .unset] []) _
  refine go1 (fun _ => XS.iloadN X0.here hx rfl (hb hby d11_0) rfl) ?_
  show Go p.tables e below s₁ (mkF m 1 #[.val (.int (1 : Int32)), .unset] [(.int (1 : Int32))]) _
  refine go1 (fun _ => XS.ifYes X0.here hx rfl (pc0 := 1) (pc' := 15) rfl (hb hby d11_1) rfl ((if0 _ _).trans (tlt (by decide : (0 : Int32) < (1 : Int32))).2.2.1) (by decide) (by decide)) ?_
  show Go p.tables e below s₁ (mkF m 15 #[.val (.int (1 : Int32)), .unset] []) _
  refine go1 (fun _ => XS.bipush X0.here hx rfl (hb hby d11_15)) ?_
  show Go p.tables e below s₁ (mkF m 17 #[.val (.int (1 : Int32)), .unset] [(.int (31 : Int32))]) _
  refine go1 (fun _ => XS.istoreN X0.here hx rfl (hb hby d11_17) rfl (l' := #[.val (.int (1 : Int32)), .val (.int (31 : Int32))]) rfl) ?_
  show Go p.tables e below s₁ (mkF m 18 #[.val (.int (1 : Int32)), .val (.int (31 : Int32))] []) _
  refine go1 (fun _ => XS.iloadN X0.here hx rfl (hb hby d11_18) rfl) ?_
  show Go p.tables e below s₁ (mkF m 19 #[.val (.int (1 : Int32)), .val (.int (31 : Int32))] [(.int (1 : Int32))]) _
  refine go1 (X0.ldcwInt hx hown (mvT hZ (hw _ (List.mem_of_getElem? (i := 88) rfl))) (g := (mkF m 19 #[.val (.int (1 : Int32)), .val (.int (31 : Int32))] [(.int (1 : Int32))])) rfl (hb hby d11_19)) ?_
  show Go p.tables e below s₁ (mkF m 22 #[.val (.int (1 : Int32)), .val (.int (31 : Int32))] [(.int (65536 : Int32)), (.int (1 : Int32))]) _
  refine go1 (fun _ => XS.icmpYes X0.here hx rfl (pc0 := 22) (pc' := 33) rfl (hb hby d11_22) rfl (tlt (by decide : (1 : Int32) < (65536 : Int32))).1 (by decide) (by decide)) ?_
  show Go p.tables e below s₁ (mkF m 33 #[.val (.int (1 : Int32)), .val (.int (31 : Int32))] []) _
  refine go1 (fun _ => XS.iloadN X0.here hx rfl (hb hby d11_33) rfl) ?_
  show Go p.tables e below s₁ (mkF m 34 #[.val (.int (1 : Int32)), .val (.int (31 : Int32))] [(.int (1 : Int32))]) _
  refine go1 (fun _ => XS.sipush X0.here hx rfl (hb hby d11_34)) ?_
  show Go p.tables e below s₁ (mkF m 37 #[.val (.int (1 : Int32)), .val (.int (31 : Int32))] [(.int (256 : Int32)), (.int (1 : Int32))]) _
  refine go1 (fun _ => XS.icmpYes X0.here hx rfl (pc0 := 37) (pc' := 48) rfl (hb hby d11_37) rfl (tlt (by decide : (1 : Int32) < (256 : Int32))).1 (by decide) (by decide)) ?_
  show Go p.tables e below s₁ (mkF m 48 #[.val (.int (1 : Int32)), .val (.int (31 : Int32))] []) _
  refine go1 (fun _ => XS.iloadN X0.here hx rfl (hb hby d11_48) rfl) ?_
  show Go p.tables e below s₁ (mkF m 49 #[.val (.int (1 : Int32)), .val (.int (31 : Int32))] [(.int (1 : Int32))]) _
  refine go1 (fun _ => XS.bipush X0.here hx rfl (hb hby d11_49)) ?_
  show Go p.tables e below s₁ (mkF m 51 #[.val (.int (1 : Int32)), .val (.int (31 : Int32))] [(.int (16 : Int32)), (.int (1 : Int32))]) _
  refine go1 (fun _ => XS.icmpYes X0.here hx rfl (pc0 := 51) (pc' := 61) rfl (hb hby d11_51) rfl (tlt (by decide : (1 : Int32) < (16 : Int32))).1 (by decide) (by decide)) ?_
  show Go p.tables e below s₁ (mkF m 61 #[.val (.int (1 : Int32)), .val (.int (31 : Int32))] []) _
  refine go1 (fun _ => XS.iloadN X0.here hx rfl (hb hby d11_61) rfl) ?_
  show Go p.tables e below s₁ (mkF m 62 #[.val (.int (1 : Int32)), .val (.int (31 : Int32))] [(.int (1 : Int32))]) _
  refine go1 (fun _ => XS.iconst X0.here hx rfl (hb hby d11_62)) ?_
  show Go p.tables e below s₁ (mkF m 63 #[.val (.int (1 : Int32)), .val (.int (31 : Int32))] [(.int (4 : Int32)), (.int (1 : Int32))]) _
  refine go1 (fun _ => XS.icmpYes X0.here hx rfl (pc0 := 63) (pc' := 73) rfl (hb hby d11_63) rfl (tlt (by decide : (1 : Int32) < (4 : Int32))).1 (by decide) (by decide)) ?_
  show Go p.tables e below s₁ (mkF m 73 #[.val (.int (1 : Int32)), .val (.int (31 : Int32))] []) _
  refine go1 (fun _ => XS.iloadN X0.here hx rfl (hb hby d11_73) rfl) ?_
  show Go p.tables e below s₁ (mkF m 74 #[.val (.int (1 : Int32)), .val (.int (31 : Int32))] [(.int (31 : Int32))]) _
  refine go1 (fun _ => XS.iloadN X0.here hx rfl (hb hby d11_74) rfl) ?_
  show Go p.tables e below s₁ (mkF m 75 #[.val (.int (1 : Int32)), .val (.int (31 : Int32))] [(.int (1 : Int32)), (.int (31 : Int32))]) _
  refine go1 (fun _ => XS.iconst X0.here hx rfl (hb hby d11_75)) ?_
  show Go p.tables e below s₁ (mkF m 76 #[.val (.int (1 : Int32)), .val (.int (31 : Int32))] [(.int (1 : Int32)), (.int (1 : Int32)), (.int (31 : Int32))]) _
  refine go1 (fun _ => XS.iushr X0.here hx rfl (hb hby d11_76) rfl) ?_
  show Go p.tables e below s₁ (mkF m 77 #[.val (.int (1 : Int32)), .val (.int (31 : Int32))] [(.int (0 : Int32)), (.int (31 : Int32))]) _
  refine go1 (fun _ => XS.isub X0.here hx rfl (hb hby d11_77) rfl) ?_
  show Go p.tables e below s₁ (mkF m 78 #[.val (.int (1 : Int32)), .val (.int (31 : Int32))] [(.int (31 : Int32))]) _
  refine goR X0 (BodyLoose.notSynchronized Bd) (v := (some (.int (31 : Int32)))) (fun h => by rw [Bd.returns] at h; cases h) (Q11_1 Z  h0 n0) (fun fs hr => retI X0 hx Bd.returns (hb hby d11_78) hr) (by decide) (by decide) ?_
  show Q11_1 Z  h0 n0 _ s₁.heap _
  rw [e0]
  exact ⟨(congrArg (fun z => some (Value.int z)) (by decide : (31 : Int32) = (31 : Int32))), N0, rfl⟩
theorem pn_11_2 : plainName "java/lang/Integer" = true := by first | (simp [plainName, overriddenIn]; done) | decide +kernel
theorem ef_11_2 (m : MethodId)  : entryFrame m #[(.int (2 : Int32))] 2 = mkF m 0 #[.val (.int (2 : Int32)), .unset] [] := by first | (simp [entryFrame, mkF, argsToLocals, Value.category]; done) | rfl
def Q11_2 (Z : State)  (h0 : Heap) (n0 : Nat) (v : Option Value) (h : Heap) (L : List Loc) : Prop := v = some (.int (30 : Int32)) ∧ Fr n0 L ∧ h = h0
set_option maxRecDepth 65536 in
set_option maxHeartbeats 40000000 in
theorem rm11_2 (l : Launch) (Z : State) (a0 : Array Value) (hw : ∀ d ∈ tables_1, d.before a0 Z = true) (ws : List Jvm.Cond)  (h0 : Heap) (n0 : Nat) (Z0 : n0 ≤ h0.size) :
    MetFree l (⟨"java/lang/Integer", "numberOfLeadingZeros", "(I)I"⟩ : MethodName) (head1 (Jvm.Cond.code (⟨"java/lang/Integer", "numberOfLeadingZeros", "(I)I"⟩ : MethodName) jdk_33_method_47_code 2 (some .int) :: ws) ({ frames := 0, cells := 0, slots := 0, locals := 0 } : Room)) (fun a U => a = #[(.int (2 : Int32))] ∧ Z.Warmed39 U.vm ∧ U.heap = h0) (fun _ _ _ _ _ => True) (fun _ U o U' => ∃ v L, o = .returned v ∧ Q11_2 Z  h0 n0 v U'.heap L ∧ FrameEnd U o U' L ({ frames := 0, cells := 0, slots := 0, locals := 0 } : Room).cells ({ frames := 0, cells := 0, slots := 0, locals := 0 } : Room).slots) := by
  refine MetFree.of_bodySF (plainFor_of_name pn_11_2) hisR ?_
  intro p e s m args below meth c s₁ Bd hml0 hP hK
  obtain ⟨rfl, hZ, hh⟩ := hP
  have hx := Bd.exec
  have hby := Bd.bytes
  have hml : c.maxLocals = 2 := hml0
  have hown : s.vm.findClass "java/lang/Integer" = some m.cls := findClass_of_methodNamed Bd.named
  have hnm := (name_of_methodNamed Bd.named Bd.method).1
  have X0 : Stand p l e ({ frames := 0, cells := 0, slots := 0, locals := 0 } : Room) s m #[(.int (2 : Int32))] below meth c s₁ [] 0 0 := Stand.of_body Bd
  have e0 : s₁.heap = h0 := by rw [← hh, Bd.state]; rfl
  have N0 := Fr.nil n0
  refine goB (ef_11_2 m ) ?_
  show Go p.tables e below s₁ (mkF m 0 #[.val (.int (2 : Int32)), .unset] []) _
  refine go1 (fun _ => XS.iloadN X0.here hx rfl (hb hby d11_0) rfl) ?_
  show Go p.tables e below s₁ (mkF m 1 #[.val (.int (2 : Int32)), .unset] [(.int (2 : Int32))]) _
  refine go1 (fun _ => XS.ifYes X0.here hx rfl (pc0 := 1) (pc' := 15) rfl (hb hby d11_1) rfl ((if0 _ _).trans (tlt (by decide : (0 : Int32) < (2 : Int32))).2.2.1) (by decide) (by decide)) ?_
  show Go p.tables e below s₁ (mkF m 15 #[.val (.int (2 : Int32)), .unset] []) _
  refine go1 (fun _ => XS.bipush X0.here hx rfl (hb hby d11_15)) ?_
  show Go p.tables e below s₁ (mkF m 17 #[.val (.int (2 : Int32)), .unset] [(.int (31 : Int32))]) _
  refine go1 (fun _ => XS.istoreN X0.here hx rfl (hb hby d11_17) rfl (l' := #[.val (.int (2 : Int32)), .val (.int (31 : Int32))]) rfl) ?_
  show Go p.tables e below s₁ (mkF m 18 #[.val (.int (2 : Int32)), .val (.int (31 : Int32))] []) _
  refine go1 (fun _ => XS.iloadN X0.here hx rfl (hb hby d11_18) rfl) ?_
  show Go p.tables e below s₁ (mkF m 19 #[.val (.int (2 : Int32)), .val (.int (31 : Int32))] [(.int (2 : Int32))]) _
  refine go1 (X0.ldcwInt hx hown (mvT hZ (hw _ (List.mem_of_getElem? (i := 88) rfl))) (g := (mkF m 19 #[.val (.int (2 : Int32)), .val (.int (31 : Int32))] [(.int (2 : Int32))])) rfl (hb hby d11_19)) ?_
  show Go p.tables e below s₁ (mkF m 22 #[.val (.int (2 : Int32)), .val (.int (31 : Int32))] [(.int (65536 : Int32)), (.int (2 : Int32))]) _
  refine go1 (fun _ => XS.icmpYes X0.here hx rfl (pc0 := 22) (pc' := 33) rfl (hb hby d11_22) rfl (tlt (by decide : (2 : Int32) < (65536 : Int32))).1 (by decide) (by decide)) ?_
  show Go p.tables e below s₁ (mkF m 33 #[.val (.int (2 : Int32)), .val (.int (31 : Int32))] []) _
  refine go1 (fun _ => XS.iloadN X0.here hx rfl (hb hby d11_33) rfl) ?_
  show Go p.tables e below s₁ (mkF m 34 #[.val (.int (2 : Int32)), .val (.int (31 : Int32))] [(.int (2 : Int32))]) _
  refine go1 (fun _ => XS.sipush X0.here hx rfl (hb hby d11_34)) ?_
  show Go p.tables e below s₁ (mkF m 37 #[.val (.int (2 : Int32)), .val (.int (31 : Int32))] [(.int (256 : Int32)), (.int (2 : Int32))]) _
  refine go1 (fun _ => XS.icmpYes X0.here hx rfl (pc0 := 37) (pc' := 48) rfl (hb hby d11_37) rfl (tlt (by decide : (2 : Int32) < (256 : Int32))).1 (by decide) (by decide)) ?_
  show Go p.tables e below s₁ (mkF m 48 #[.val (.int (2 : Int32)), .val (.int (31 : Int32))] []) _
  refine go1 (fun _ => XS.iloadN X0.here hx rfl (hb hby d11_48) rfl) ?_
  show Go p.tables e below s₁ (mkF m 49 #[.val (.int (2 : Int32)), .val (.int (31 : Int32))] [(.int (2 : Int32))]) _
  refine go1 (fun _ => XS.bipush X0.here hx rfl (hb hby d11_49)) ?_
  show Go p.tables e below s₁ (mkF m 51 #[.val (.int (2 : Int32)), .val (.int (31 : Int32))] [(.int (16 : Int32)), (.int (2 : Int32))]) _
  refine go1 (fun _ => XS.icmpYes X0.here hx rfl (pc0 := 51) (pc' := 61) rfl (hb hby d11_51) rfl (tlt (by decide : (2 : Int32) < (16 : Int32))).1 (by decide) (by decide)) ?_
  show Go p.tables e below s₁ (mkF m 61 #[.val (.int (2 : Int32)), .val (.int (31 : Int32))] []) _
  refine go1 (fun _ => XS.iloadN X0.here hx rfl (hb hby d11_61) rfl) ?_
  show Go p.tables e below s₁ (mkF m 62 #[.val (.int (2 : Int32)), .val (.int (31 : Int32))] [(.int (2 : Int32))]) _
  refine go1 (fun _ => XS.iconst X0.here hx rfl (hb hby d11_62)) ?_
  show Go p.tables e below s₁ (mkF m 63 #[.val (.int (2 : Int32)), .val (.int (31 : Int32))] [(.int (4 : Int32)), (.int (2 : Int32))]) _
  refine go1 (fun _ => XS.icmpYes X0.here hx rfl (pc0 := 63) (pc' := 73) rfl (hb hby d11_63) rfl (tlt (by decide : (2 : Int32) < (4 : Int32))).1 (by decide) (by decide)) ?_
  show Go p.tables e below s₁ (mkF m 73 #[.val (.int (2 : Int32)), .val (.int (31 : Int32))] []) _
  refine go1 (fun _ => XS.iloadN X0.here hx rfl (hb hby d11_73) rfl) ?_
  show Go p.tables e below s₁ (mkF m 74 #[.val (.int (2 : Int32)), .val (.int (31 : Int32))] [(.int (31 : Int32))]) _
  refine go1 (fun _ => XS.iloadN X0.here hx rfl (hb hby d11_74) rfl) ?_
  show Go p.tables e below s₁ (mkF m 75 #[.val (.int (2 : Int32)), .val (.int (31 : Int32))] [(.int (2 : Int32)), (.int (31 : Int32))]) _
  refine go1 (fun _ => XS.iconst X0.here hx rfl (hb hby d11_75)) ?_
  show Go p.tables e below s₁ (mkF m 76 #[.val (.int (2 : Int32)), .val (.int (31 : Int32))] [(.int (1 : Int32)), (.int (2 : Int32)), (.int (31 : Int32))]) _
  refine go1 (fun _ => XS.iushr X0.here hx rfl (hb hby d11_76) rfl) ?_
  show Go p.tables e below s₁ (mkF m 77 #[.val (.int (2 : Int32)), .val (.int (31 : Int32))] [(.int (1 : Int32)), (.int (31 : Int32))]) _
  refine go1 (fun _ => XS.isub X0.here hx rfl (hb hby d11_77) rfl) ?_
  show Go p.tables e below s₁ (mkF m 78 #[.val (.int (2 : Int32)), .val (.int (31 : Int32))] [(.int (30 : Int32))]) _
  refine goR X0 (BodyLoose.notSynchronized Bd) (v := (some (.int (30 : Int32)))) (fun h => by rw [Bd.returns] at h; cases h) (Q11_2 Z  h0 n0) (fun fs hr => retI X0 hx Bd.returns (hb hby d11_78) hr) (by decide) (by decide) ?_
  show Q11_2 Z  h0 n0 _ s₁.heap _
  rw [e0]
  exact ⟨(congrArg (fun z => some (Value.int z)) (by decide : (30 : Int32) = (30 : Int32))), N0, rfl⟩
theorem pn_11_3 : plainName "java/lang/Integer" = true := by first | (simp [plainName, overriddenIn]; done) | decide +kernel
theorem ef_11_3 (m : MethodId)  : entryFrame m #[(.int (3 : Int32))] 2 = mkF m 0 #[.val (.int (3 : Int32)), .unset] [] := by first | (simp [entryFrame, mkF, argsToLocals, Value.category]; done) | rfl
def Q11_3 (Z : State)  (h0 : Heap) (n0 : Nat) (v : Option Value) (h : Heap) (L : List Loc) : Prop := v = some (.int (30 : Int32)) ∧ Fr n0 L ∧ h = h0
set_option maxRecDepth 65536 in
set_option maxHeartbeats 40000000 in
theorem rm11_3 (l : Launch) (Z : State) (a0 : Array Value) (hw : ∀ d ∈ tables_1, d.before a0 Z = true) (ws : List Jvm.Cond)  (h0 : Heap) (n0 : Nat) (Z0 : n0 ≤ h0.size) :
    MetFree l (⟨"java/lang/Integer", "numberOfLeadingZeros", "(I)I"⟩ : MethodName) (head1 (Jvm.Cond.code (⟨"java/lang/Integer", "numberOfLeadingZeros", "(I)I"⟩ : MethodName) jdk_33_method_47_code 2 (some .int) :: ws) ({ frames := 0, cells := 0, slots := 0, locals := 0 } : Room)) (fun a U => a = #[(.int (3 : Int32))] ∧ Z.Warmed39 U.vm ∧ U.heap = h0) (fun _ _ _ _ _ => True) (fun _ U o U' => ∃ v L, o = .returned v ∧ Q11_3 Z  h0 n0 v U'.heap L ∧ FrameEnd U o U' L ({ frames := 0, cells := 0, slots := 0, locals := 0 } : Room).cells ({ frames := 0, cells := 0, slots := 0, locals := 0 } : Room).slots) := by
  refine MetFree.of_bodySF (plainFor_of_name pn_11_3) hisR ?_
  intro p e s m args below meth c s₁ Bd hml0 hP hK
  obtain ⟨rfl, hZ, hh⟩ := hP
  have hx := Bd.exec
  have hby := Bd.bytes
  have hml : c.maxLocals = 2 := hml0
  have hown : s.vm.findClass "java/lang/Integer" = some m.cls := findClass_of_methodNamed Bd.named
  have hnm := (name_of_methodNamed Bd.named Bd.method).1
  have X0 : Stand p l e ({ frames := 0, cells := 0, slots := 0, locals := 0 } : Room) s m #[(.int (3 : Int32))] below meth c s₁ [] 0 0 := Stand.of_body Bd
  have e0 : s₁.heap = h0 := by rw [← hh, Bd.state]; rfl
  have N0 := Fr.nil n0
  refine goB (ef_11_3 m ) ?_
  show Go p.tables e below s₁ (mkF m 0 #[.val (.int (3 : Int32)), .unset] []) _
  refine go1 (fun _ => XS.iloadN X0.here hx rfl (hb hby d11_0) rfl) ?_
  show Go p.tables e below s₁ (mkF m 1 #[.val (.int (3 : Int32)), .unset] [(.int (3 : Int32))]) _
  refine go1 (fun _ => XS.ifYes X0.here hx rfl (pc0 := 1) (pc' := 15) rfl (hb hby d11_1) rfl ((if0 _ _).trans (tlt (by decide : (0 : Int32) < (3 : Int32))).2.2.1) (by decide) (by decide)) ?_
  show Go p.tables e below s₁ (mkF m 15 #[.val (.int (3 : Int32)), .unset] []) _
  refine go1 (fun _ => XS.bipush X0.here hx rfl (hb hby d11_15)) ?_
  show Go p.tables e below s₁ (mkF m 17 #[.val (.int (3 : Int32)), .unset] [(.int (31 : Int32))]) _
  refine go1 (fun _ => XS.istoreN X0.here hx rfl (hb hby d11_17) rfl (l' := #[.val (.int (3 : Int32)), .val (.int (31 : Int32))]) rfl) ?_
  show Go p.tables e below s₁ (mkF m 18 #[.val (.int (3 : Int32)), .val (.int (31 : Int32))] []) _
  refine go1 (fun _ => XS.iloadN X0.here hx rfl (hb hby d11_18) rfl) ?_
  show Go p.tables e below s₁ (mkF m 19 #[.val (.int (3 : Int32)), .val (.int (31 : Int32))] [(.int (3 : Int32))]) _
  refine go1 (X0.ldcwInt hx hown (mvT hZ (hw _ (List.mem_of_getElem? (i := 88) rfl))) (g := (mkF m 19 #[.val (.int (3 : Int32)), .val (.int (31 : Int32))] [(.int (3 : Int32))])) rfl (hb hby d11_19)) ?_
  show Go p.tables e below s₁ (mkF m 22 #[.val (.int (3 : Int32)), .val (.int (31 : Int32))] [(.int (65536 : Int32)), (.int (3 : Int32))]) _
  refine go1 (fun _ => XS.icmpYes X0.here hx rfl (pc0 := 22) (pc' := 33) rfl (hb hby d11_22) rfl (tlt (by decide : (3 : Int32) < (65536 : Int32))).1 (by decide) (by decide)) ?_
  show Go p.tables e below s₁ (mkF m 33 #[.val (.int (3 : Int32)), .val (.int (31 : Int32))] []) _
  refine go1 (fun _ => XS.iloadN X0.here hx rfl (hb hby d11_33) rfl) ?_
  show Go p.tables e below s₁ (mkF m 34 #[.val (.int (3 : Int32)), .val (.int (31 : Int32))] [(.int (3 : Int32))]) _
  refine go1 (fun _ => XS.sipush X0.here hx rfl (hb hby d11_34)) ?_
  show Go p.tables e below s₁ (mkF m 37 #[.val (.int (3 : Int32)), .val (.int (31 : Int32))] [(.int (256 : Int32)), (.int (3 : Int32))]) _
  refine go1 (fun _ => XS.icmpYes X0.here hx rfl (pc0 := 37) (pc' := 48) rfl (hb hby d11_37) rfl (tlt (by decide : (3 : Int32) < (256 : Int32))).1 (by decide) (by decide)) ?_
  show Go p.tables e below s₁ (mkF m 48 #[.val (.int (3 : Int32)), .val (.int (31 : Int32))] []) _
  refine go1 (fun _ => XS.iloadN X0.here hx rfl (hb hby d11_48) rfl) ?_
  show Go p.tables e below s₁ (mkF m 49 #[.val (.int (3 : Int32)), .val (.int (31 : Int32))] [(.int (3 : Int32))]) _
  refine go1 (fun _ => XS.bipush X0.here hx rfl (hb hby d11_49)) ?_
  show Go p.tables e below s₁ (mkF m 51 #[.val (.int (3 : Int32)), .val (.int (31 : Int32))] [(.int (16 : Int32)), (.int (3 : Int32))]) _
  refine go1 (fun _ => XS.icmpYes X0.here hx rfl (pc0 := 51) (pc' := 61) rfl (hb hby d11_51) rfl (tlt (by decide : (3 : Int32) < (16 : Int32))).1 (by decide) (by decide)) ?_
  show Go p.tables e below s₁ (mkF m 61 #[.val (.int (3 : Int32)), .val (.int (31 : Int32))] []) _
  refine go1 (fun _ => XS.iloadN X0.here hx rfl (hb hby d11_61) rfl) ?_
  show Go p.tables e below s₁ (mkF m 62 #[.val (.int (3 : Int32)), .val (.int (31 : Int32))] [(.int (3 : Int32))]) _
  refine go1 (fun _ => XS.iconst X0.here hx rfl (hb hby d11_62)) ?_
  show Go p.tables e below s₁ (mkF m 63 #[.val (.int (3 : Int32)), .val (.int (31 : Int32))] [(.int (4 : Int32)), (.int (3 : Int32))]) _
  refine go1 (fun _ => XS.icmpYes X0.here hx rfl (pc0 := 63) (pc' := 73) rfl (hb hby d11_63) rfl (tlt (by decide : (3 : Int32) < (4 : Int32))).1 (by decide) (by decide)) ?_
  show Go p.tables e below s₁ (mkF m 73 #[.val (.int (3 : Int32)), .val (.int (31 : Int32))] []) _
  refine go1 (fun _ => XS.iloadN X0.here hx rfl (hb hby d11_73) rfl) ?_
  show Go p.tables e below s₁ (mkF m 74 #[.val (.int (3 : Int32)), .val (.int (31 : Int32))] [(.int (31 : Int32))]) _
  refine go1 (fun _ => XS.iloadN X0.here hx rfl (hb hby d11_74) rfl) ?_
  show Go p.tables e below s₁ (mkF m 75 #[.val (.int (3 : Int32)), .val (.int (31 : Int32))] [(.int (3 : Int32)), (.int (31 : Int32))]) _
  refine go1 (fun _ => XS.iconst X0.here hx rfl (hb hby d11_75)) ?_
  show Go p.tables e below s₁ (mkF m 76 #[.val (.int (3 : Int32)), .val (.int (31 : Int32))] [(.int (1 : Int32)), (.int (3 : Int32)), (.int (31 : Int32))]) _
  refine go1 (fun _ => XS.iushr X0.here hx rfl (hb hby d11_76) rfl) ?_
  show Go p.tables e below s₁ (mkF m 77 #[.val (.int (3 : Int32)), .val (.int (31 : Int32))] [(.int (1 : Int32)), (.int (31 : Int32))]) _
  refine go1 (fun _ => XS.isub X0.here hx rfl (hb hby d11_77) rfl) ?_
  show Go p.tables e below s₁ (mkF m 78 #[.val (.int (3 : Int32)), .val (.int (31 : Int32))] [(.int (30 : Int32))]) _
  refine goR X0 (BodyLoose.notSynchronized Bd) (v := (some (.int (30 : Int32)))) (fun h => by rw [Bd.returns] at h; cases h) (Q11_3 Z  h0 n0) (fun fs hr => retI X0 hx Bd.returns (hb hby d11_78) hr) (by decide) (by decide) ?_
  show Q11_3 Z  h0 n0 _ s₁.heap _
  rw [e0]
  exact ⟨(congrArg (fun z => some (Value.int z)) (by decide : (30 : Int32) = (30 : Int32))), N0, rfl⟩
theorem d9_0 : decode prog_9_method_1_code 0 = .ok (.aload_n 0, 1) := by decide +kernel
theorem d9_1 : decode prog_9_method_1_code 1 = .ok (.invokespecial 1, 3) := by decide +kernel
theorem d9_4 : decode prog_9_method_1_code 4 = .ok (.aload_n 0, 1) := by decide +kernel
theorem d9_5 : decode prog_9_method_1_code 5 = .ok (.aload_n 1, 1) := by decide +kernel
theorem d9_6 : decode prog_9_method_1_code 6 = .ok (.putfield 7, 3) := by decide +kernel
theorem d9_9 : decode prog_9_method_1_code 9 = .ok (.aload_n 0, 1) := by decide +kernel
theorem d9_10 : decode prog_9_method_1_code 10 = .ok (.aload_n 2, 1) := by decide +kernel
theorem d9_11 : decode prog_9_method_1_code 11 = .ok (.putfield 13, 3) := by decide +kernel
theorem d9_14 : decode prog_9_method_1_code 14 = .ok (.aload_n 0, 1) := by decide +kernel
theorem d9_15 : decode prog_9_method_1_code 15 = .ok (.aload_n 3, 1) := by decide +kernel
theorem d9_16 : decode prog_9_method_1_code 16 = .ok (.putfield 17, 3) := by decide +kernel
theorem d9_19 : decode prog_9_method_1_code 19 = .ok (.aload_n 0, 1) := by decide +kernel
theorem d9_20 : decode prog_9_method_1_code 20 = .ok (.aload 4, 2) := by decide +kernel
theorem d9_22 : decode prog_9_method_1_code 22 = .ok (.putfield 21, 3) := by decide +kernel
theorem d9_25 : decode prog_9_method_1_code 25 = .ok (.return_, 1) := by decide +kernel
theorem pn_9a : plainName "com/example/carmine/carmine/RedBlack$Chain" = true := by first | (simp [plainName, overriddenIn]; done) | decide +kernel
theorem ef_9a (m : MethodId) (c1 : Addr) : entryFrame m #[(.ref c1), .null, .null, .null, .null] 5 = mkF m 0 #[.val (.ref c1), .val .null, .val .null, .val .null, .val .null] [] := by first | (simp [entryFrame, mkF, argsToLocals, Value.category]; done) | rfl
def Q9a (Z : State) (c1 : Addr) (h0 : Heap) (n0 : Nat) (v : Option Value) (h : Heap) (L : List Loc) : Prop := v = none ∧ Fr n0 L ∧ Keep h0 h [c1] ∧ Exa Z h c1 "com/example/carmine/carmine/RedBlack$Chain" ∧ Fld Z h c1 "com/example/carmine/carmine/RedBlack$Chain" "next" "Lcom/example/carmine/carmine/Node;" .null ∧ Fld Z h c1 "com/example/carmine/carmine/RedBlack$Chain" "row" "Lcom/example/carmine/carmine/RedBlack$Row;" .null ∧ Fld Z h c1 "com/example/carmine/carmine/RedBlack$Chain" "items" "Ljava/util/Iterator;" .null ∧ Fld Z h c1 "com/example/carmine/carmine/RedBlack$Chain" "maker" "Ljava/util/function/Function;" .null ∧ Fld Z h c1 "com/example/carmine/carmine/RedBlack$Chain" "redDepth" "I" (.int (0 : Int32))
set_option maxRecDepth 65536 in
set_option maxHeartbeats 40000000 in
theorem rm9a (l : Launch) (Z : State) (a0 : Array Value) (hw : ∀ d ∈ tables_1, d.before a0 Z = true) (ws : List Jvm.Cond) (c1 : Addr) (h0 : Heap) (n0 : Nat) (Z0 : n0 ≤ h0.size) (F_next_c1 : Fld Z h0 c1 "com/example/carmine/carmine/RedBlack$Chain" "next" "Lcom/example/carmine/carmine/Node;" .null) (F_row_c1 : Fld Z h0 c1 "com/example/carmine/carmine/RedBlack$Chain" "row" "Lcom/example/carmine/carmine/RedBlack$Row;" .null) (F_items_c1 : Fld Z h0 c1 "com/example/carmine/carmine/RedBlack$Chain" "items" "Ljava/util/Iterator;" .null) (F_maker_c1 : Fld Z h0 c1 "com/example/carmine/carmine/RedBlack$Chain" "maker" "Ljava/util/function/Function;" .null) (F_redDepth_c1 : Fld Z h0 c1 "com/example/carmine/carmine/RedBlack$Chain" "redDepth" "I" (.int (0 : Int32))) (E_c1 : Exa Z h0 c1 "com/example/carmine/carmine/RedBlack$Chain") (g_c1 : n0 ≤ c1) :
    MetFree l (⟨"com/example/carmine/carmine/RedBlack$Chain", "<init>", "(Lcom/example/carmine/carmine/Node;Lcom/example/carmine/carmine/RedBlack$Row;Ljava/util/Iterator;Ljava/util/function/Function;)V"⟩ : MethodName) (head1 (Jvm.Cond.code (⟨"com/example/carmine/carmine/RedBlack$Chain", "<init>", "(Lcom/example/carmine/carmine/Node;Lcom/example/carmine/carmine/RedBlack$Row;Ljava/util/Iterator;Ljava/util/function/Function;)V"⟩ : MethodName) prog_9_method_1_code 5 none :: ws) ({ frames := 1, cells := 0, slots := 0, locals := 12 } : Room)) (fun a U => a = #[(.ref c1), .null, .null, .null, .null] ∧ Z.Warmed39 U.vm ∧ U.heap = h0) (fun _ _ _ _ _ => True) (fun _ U o U' => ∃ v L, o = .returned v ∧ Q9a Z c1 h0 n0 v U'.heap L ∧ FrameEnd U o U' L ({ frames := 1, cells := 0, slots := 0, locals := 12 } : Room).cells ({ frames := 1, cells := 0, slots := 0, locals := 12 } : Room).slots) := by
  refine MetFree.of_bodySF (plainFor_of_name pn_9a) hisR ?_
  intro p e s m args below meth c s₁ Bd hml0 hP hK
  obtain ⟨rfl, hZ, hh⟩ := hP
  have hx := Bd.exec
  have hby := Bd.bytes
  have hml : c.maxLocals = 5 := hml0
  have hown : s.vm.findClass "com/example/carmine/carmine/RedBlack$Chain" = some m.cls := findClass_of_methodNamed Bd.named
  have hnm := (name_of_methodNamed Bd.named Bd.method).1
  have X0 : Stand p l e ({ frames := 1, cells := 0, slots := 0, locals := 12 } : Room) s m #[(.ref c1), .null, .null, .null, .null] below meth c s₁ [] 0 0 := Stand.of_body Bd
  have e0 : s₁.heap = h0 := by rw [← hh, Bd.state]; rfl
  have N0 := Fr.nil n0
  refine goB (ef_9a m c1) ?_
  show Go p.tables e below s₁ (mkF m 0 #[.val (.ref c1), .val .null, .val .null, .val .null, .val .null] []) _
  refine go1 (fun _ => XS.aloadN X0.here hx rfl (hb hby d9_0) rfl rfl) ?_
  show Go p.tables e below s₁ (mkF m 1 #[.val (.ref c1), .val .null, .val .null, .val .null, .val .null] [(.ref c1)]) _
  obtain ⟨T1, X1, e1, st1⟩ := initO X0 hx hZ hown (hw _ (List.mem_of_getElem? (i := 61) rfl)) (hw _ (List.mem_of_getElem? (i := 14) rfl)) (hw _ (List.mem_of_getElem? (i := 15) rfl)) e0 (g := (mkF m 1 #[.val (.ref c1), .val .null, .val .null, .val .null, .val .null] [(.ref c1)])) rfl (by rw [hml]; rfl) rfl (hb hby d9_1) (by decide) (W := 0) (by show 2 * 0 + _ ≤ _; exact Nat.le_of_eq rfl) (by decide)
  refine go1 st1 ?_
  show Go p.tables e below T1 (mkF m 4 #[.val (.ref c1), .val .null, .val .null, .val .null, .val .null] []) _
  refine go1 (fun _ => XS.aloadN X1.here hx rfl (hb hby d9_4) rfl rfl) ?_
  show Go p.tables e below T1 (mkF m 5 #[.val (.ref c1), .val .null, .val .null, .val .null, .val .null] [(.ref c1)]) _
  refine go1 (fun _ => XS.aloadN X1.here hx rfl (hb hby d9_5) rfl rfl) ?_
  show Go p.tables e below T1 (mkF m 6 #[.val (.ref c1), .val .null, .val .null, .val .null, .val .null] [.null, (.ref c1)]) _
  obtain ⟨T2, h2, X2, e2, W2, st2⟩ := putF X1 hx hZ hown (host := "") (Or.inl (hw _ (List.mem_of_getElem? (i := 62) rfl))) Via.refl e1 F_next_c1 E_c1 (Or.inl (hw _ (List.mem_of_getElem? (i := 63) rfl))) (hw _ (List.mem_of_getElem? (i := 54) rfl)) (ty := (.object "com/example/carmine/carmine/Node")) (by decide) rfl rfl (g := (mkF m 6 #[.val (.ref c1), .val .null, .val .null, .val .null, .val .null] [.null, (.ref c1)])) rfl rfl (hb hby d9_6)
  refine go1 st2 ?_
  have Fw2 := F_next_c1.same W2
  have N2 := Fr.snoc X2 N0 g_c1
  show Go p.tables e below T2 (mkF m 9 #[.val (.ref c1), .val .null, .val .null, .val .null, .val .null] []) _
  refine go1 (fun _ => XS.aloadN X2.here hx rfl (hb hby d9_9) rfl rfl) ?_
  show Go p.tables e below T2 (mkF m 10 #[.val (.ref c1), .val .null, .val .null, .val .null, .val .null] [(.ref c1)]) _
  refine go1 (fun _ => XS.aloadN X2.here hx rfl (hb hby d9_10) rfl rfl) ?_
  show Go p.tables e below T2 (mkF m 11 #[.val (.ref c1), .val .null, .val .null, .val .null, .val .null] [.null, (.ref c1)]) _
  obtain ⟨T3, h3, X3, e3, W3, st3⟩ := putF X2 hx hZ hown (host := "") (Or.inl (hw _ (List.mem_of_getElem? (i := 64) rfl))) Via.refl e2 (F_row_c1.other W2 (Or.inr (slot_ne (Or.inr (hw _ (List.mem_of_getElem? (i := 65) rfl))) (Or.inl (hw _ (List.mem_of_getElem? (i := 63) rfl))) (by decide) (t := (.object "com/example/carmine/carmine/RedBlack$Row")) (t' := (.object "com/example/carmine/carmine/Node")) (by decide) (by decide)))) (E_c1.wr W2) (Or.inr ⟨(hw _ (List.mem_of_getElem? (i := 65) rfl)), rfl, hnm⟩) (hw _ (List.mem_of_getElem? (i := 54) rfl)) (ty := (.object "com/example/carmine/carmine/RedBlack$Row")) (by decide) rfl rfl (g := (mkF m 11 #[.val (.ref c1), .val .null, .val .null, .val .null, .val .null] [.null, (.ref c1)])) rfl rfl (hb hby d9_11)
  refine go1 st3 ?_
  have Fw3 := (F_row_c1.other W2 (Or.inr (slot_ne (Or.inr (hw _ (List.mem_of_getElem? (i := 65) rfl))) (Or.inl (hw _ (List.mem_of_getElem? (i := 63) rfl))) (by decide) (t := (.object "com/example/carmine/carmine/RedBlack$Row")) (t' := (.object "com/example/carmine/carmine/Node")) (by decide) (by decide)))).same W3
  have N3 := Fr.snoc X3 N2 g_c1
  show Go p.tables e below T3 (mkF m 14 #[.val (.ref c1), .val .null, .val .null, .val .null, .val .null] []) _
  refine go1 (fun _ => XS.aloadN X3.here hx rfl (hb hby d9_14) rfl rfl) ?_
  show Go p.tables e below T3 (mkF m 15 #[.val (.ref c1), .val .null, .val .null, .val .null, .val .null] [(.ref c1)]) _
  refine go1 (fun _ => XS.aloadN X3.here hx rfl (hb hby d9_15) rfl rfl) ?_
  show Go p.tables e below T3 (mkF m 16 #[.val (.ref c1), .val .null, .val .null, .val .null, .val .null] [.null, (.ref c1)]) _
  obtain ⟨T4, h4, X4, e4, W4, st4⟩ := putF X3 hx hZ hown (host := "") (Or.inl (hw _ (List.mem_of_getElem? (i := 66) rfl))) Via.refl e3 ((F_items_c1.other W2 (Or.inr (slot_ne (Or.inr (hw _ (List.mem_of_getElem? (i := 67) rfl))) (Or.inl (hw _ (List.mem_of_getElem? (i := 63) rfl))) (by decide) (t := (.object "java/util/Iterator")) (t' := (.object "com/example/carmine/carmine/Node")) (by decide) (by decide)))).other W3 (Or.inr (slot_ne (Or.inr (hw _ (List.mem_of_getElem? (i := 67) rfl))) (Or.inr (hw _ (List.mem_of_getElem? (i := 65) rfl))) (by decide) (t := (.object "java/util/Iterator")) (t' := (.object "com/example/carmine/carmine/RedBlack$Row")) (by decide) (by decide)))) ((E_c1.wr W2).wr W3) (Or.inr ⟨(hw _ (List.mem_of_getElem? (i := 67) rfl)), rfl, hnm⟩) (hw _ (List.mem_of_getElem? (i := 54) rfl)) (ty := (.object "java/util/Iterator")) (by decide) rfl rfl (g := (mkF m 16 #[.val (.ref c1), .val .null, .val .null, .val .null, .val .null] [.null, (.ref c1)])) rfl rfl (hb hby d9_16)
  refine go1 st4 ?_
  have Fw4 := ((F_items_c1.other W2 (Or.inr (slot_ne (Or.inr (hw _ (List.mem_of_getElem? (i := 67) rfl))) (Or.inl (hw _ (List.mem_of_getElem? (i := 63) rfl))) (by decide) (t := (.object "java/util/Iterator")) (t' := (.object "com/example/carmine/carmine/Node")) (by decide) (by decide)))).other W3 (Or.inr (slot_ne (Or.inr (hw _ (List.mem_of_getElem? (i := 67) rfl))) (Or.inr (hw _ (List.mem_of_getElem? (i := 65) rfl))) (by decide) (t := (.object "java/util/Iterator")) (t' := (.object "com/example/carmine/carmine/RedBlack$Row")) (by decide) (by decide)))).same W4
  have N4 := Fr.snoc X4 N3 g_c1
  show Go p.tables e below T4 (mkF m 19 #[.val (.ref c1), .val .null, .val .null, .val .null, .val .null] []) _
  refine go1 (fun _ => XS.aloadN X4.here hx rfl (hb hby d9_19) rfl rfl) ?_
  show Go p.tables e below T4 (mkF m 20 #[.val (.ref c1), .val .null, .val .null, .val .null, .val .null] [(.ref c1)]) _
  refine go1 (fun _ => XS.aload X4.here hx rfl (hb hby d9_20) rfl rfl) ?_
  show Go p.tables e below T4 (mkF m 22 #[.val (.ref c1), .val .null, .val .null, .val .null, .val .null] [.null, (.ref c1)]) _
  obtain ⟨T5, h5, X5, e5, W5, st5⟩ := putF X4 hx hZ hown (host := "") (Or.inl (hw _ (List.mem_of_getElem? (i := 68) rfl))) Via.refl e4 (((F_maker_c1.other W2 (Or.inr (slot_ne (Or.inr (hw _ (List.mem_of_getElem? (i := 69) rfl))) (Or.inl (hw _ (List.mem_of_getElem? (i := 63) rfl))) (by decide) (t := (.object "java/util/function/Function")) (t' := (.object "com/example/carmine/carmine/Node")) (by decide) (by decide)))).other W3 (Or.inr (slot_ne (Or.inr (hw _ (List.mem_of_getElem? (i := 69) rfl))) (Or.inr (hw _ (List.mem_of_getElem? (i := 65) rfl))) (by decide) (t := (.object "java/util/function/Function")) (t' := (.object "com/example/carmine/carmine/RedBlack$Row")) (by decide) (by decide)))).other W4 (Or.inr (slot_ne (Or.inr (hw _ (List.mem_of_getElem? (i := 69) rfl))) (Or.inr (hw _ (List.mem_of_getElem? (i := 67) rfl))) (by decide) (t := (.object "java/util/function/Function")) (t' := (.object "java/util/Iterator")) (by decide) (by decide)))) (((E_c1.wr W2).wr W3).wr W4) (Or.inr ⟨(hw _ (List.mem_of_getElem? (i := 69) rfl)), rfl, hnm⟩) (hw _ (List.mem_of_getElem? (i := 54) rfl)) (ty := (.object "java/util/function/Function")) (by decide) rfl rfl (g := (mkF m 22 #[.val (.ref c1), .val .null, .val .null, .val .null, .val .null] [.null, (.ref c1)])) rfl rfl (hb hby d9_22)
  refine go1 st5 ?_
  have Fw5 := (((F_maker_c1.other W2 (Or.inr (slot_ne (Or.inr (hw _ (List.mem_of_getElem? (i := 69) rfl))) (Or.inl (hw _ (List.mem_of_getElem? (i := 63) rfl))) (by decide) (t := (.object "java/util/function/Function")) (t' := (.object "com/example/carmine/carmine/Node")) (by decide) (by decide)))).other W3 (Or.inr (slot_ne (Or.inr (hw _ (List.mem_of_getElem? (i := 69) rfl))) (Or.inr (hw _ (List.mem_of_getElem? (i := 65) rfl))) (by decide) (t := (.object "java/util/function/Function")) (t' := (.object "com/example/carmine/carmine/RedBlack$Row")) (by decide) (by decide)))).other W4 (Or.inr (slot_ne (Or.inr (hw _ (List.mem_of_getElem? (i := 69) rfl))) (Or.inr (hw _ (List.mem_of_getElem? (i := 67) rfl))) (by decide) (t := (.object "java/util/function/Function")) (t' := (.object "java/util/Iterator")) (by decide) (by decide)))).same W5
  have N5 := Fr.snoc X5 N4 g_c1
  show Go p.tables e below T5 (mkF m 25 #[.val (.ref c1), .val .null, .val .null, .val .null, .val .null] []) _
  refine goR X5 (BodyLoose.notSynchronized Bd) (v := none) (fun _ => rfl) (Q9a Z c1 h0 n0) (fun fs hr => X5.returnOut hx Bd.returns (hb hby d9_25) hr) (by decide) (by decide) ?_
  show Q9a Z c1 h0 n0 _ T5.heap _
  rw [e5]
  exact ⟨rfl, N5, (((((Keep.refl h0 [c1]).wr W2 (Or.inl (List.mem_of_getElem? (i := 0) rfl))).wr W3 (Or.inl (List.mem_of_getElem? (i := 0) rfl))).wr W4 (Or.inl (List.mem_of_getElem? (i := 0) rfl))).wr W5 (Or.inl (List.mem_of_getElem? (i := 0) rfl))), ((((E_c1.wr W2).wr W3).wr W4).wr W5), (((Fw2.other W3 (Or.inr (slot_ne (Or.inl (hw _ (List.mem_of_getElem? (i := 63) rfl))) (Or.inr (hw _ (List.mem_of_getElem? (i := 65) rfl))) (by decide) (t := (.object "com/example/carmine/carmine/Node")) (t' := (.object "com/example/carmine/carmine/RedBlack$Row")) (by decide) (by decide)))).other W4 (Or.inr (slot_ne (Or.inl (hw _ (List.mem_of_getElem? (i := 63) rfl))) (Or.inr (hw _ (List.mem_of_getElem? (i := 67) rfl))) (by decide) (t := (.object "com/example/carmine/carmine/Node")) (t' := (.object "java/util/Iterator")) (by decide) (by decide)))).other W5 (Or.inr (slot_ne (Or.inl (hw _ (List.mem_of_getElem? (i := 63) rfl))) (Or.inr (hw _ (List.mem_of_getElem? (i := 69) rfl))) (by decide) (t := (.object "com/example/carmine/carmine/Node")) (t' := (.object "java/util/function/Function")) (by decide) (by decide)))), ((Fw3.other W4 (Or.inr (slot_ne (Or.inr (hw _ (List.mem_of_getElem? (i := 65) rfl))) (Or.inr (hw _ (List.mem_of_getElem? (i := 67) rfl))) (by decide) (t := (.object "com/example/carmine/carmine/RedBlack$Row")) (t' := (.object "java/util/Iterator")) (by decide) (by decide)))).other W5 (Or.inr (slot_ne (Or.inr (hw _ (List.mem_of_getElem? (i := 65) rfl))) (Or.inr (hw _ (List.mem_of_getElem? (i := 69) rfl))) (by decide) (t := (.object "com/example/carmine/carmine/RedBlack$Row")) (t' := (.object "java/util/function/Function")) (by decide) (by decide)))), (Fw4.other W5 (Or.inr (slot_ne (Or.inr (hw _ (List.mem_of_getElem? (i := 67) rfl))) (Or.inr (hw _ (List.mem_of_getElem? (i := 69) rfl))) (by decide) (t := (.object "java/util/Iterator")) (t' := (.object "java/util/function/Function")) (by decide) (by decide)))), Fw5, ((((F_redDepth_c1.other W2 (Or.inr (slot_ne (Or.inl (hw _ (List.mem_of_getElem? (i := 80) rfl))) (Or.inl (hw _ (List.mem_of_getElem? (i := 63) rfl))) (by decide) (t := .int) (t' := (.object "com/example/carmine/carmine/Node")) (by decide) (by decide)))).other W3 (Or.inr (slot_ne (Or.inl (hw _ (List.mem_of_getElem? (i := 80) rfl))) (Or.inr (hw _ (List.mem_of_getElem? (i := 65) rfl))) (by decide) (t := .int) (t' := (.object "com/example/carmine/carmine/RedBlack$Row")) (by decide) (by decide)))).other W4 (Or.inr (slot_ne (Or.inl (hw _ (List.mem_of_getElem? (i := 80) rfl))) (Or.inr (hw _ (List.mem_of_getElem? (i := 67) rfl))) (by decide) (t := .int) (t' := (.object "java/util/Iterator")) (by decide) (by decide)))).other W5 (Or.inr (slot_ne (Or.inl (hw _ (List.mem_of_getElem? (i := 80) rfl))) (Or.inr (hw _ (List.mem_of_getElem? (i := 69) rfl))) (by decide) (t := .int) (t' := (.object "java/util/function/Function")) (by decide) (by decide))))⟩
theorem pn_9b : plainName "com/example/carmine/carmine/RedBlack$Chain" = true := by first | (simp [plainName, overriddenIn]; done) | decide +kernel
theorem ef_9b (m : MethodId) (c1 : Addr) (a1 : Addr) : entryFrame m #[(.ref c1), (.ref a1), .null, .null, .null] 5 = mkF m 0 #[.val (.ref c1), .val (.ref a1), .val .null, .val .null, .val .null] [] := by first | (simp [entryFrame, mkF, argsToLocals, Value.category]; done) | rfl
def Q9b (Z : State) (c1 : Addr) (a1 : Addr) (h0 : Heap) (n0 : Nat) (v : Option Value) (h : Heap) (L : List Loc) : Prop := v = none ∧ Fr n0 L ∧ Keep h0 h [c1] ∧ Exa Z h c1 "com/example/carmine/carmine/RedBlack$Chain" ∧ Fld Z h c1 "com/example/carmine/carmine/RedBlack$Chain" "next" "Lcom/example/carmine/carmine/Node;" (.ref a1) ∧ Fld Z h c1 "com/example/carmine/carmine/RedBlack$Chain" "row" "Lcom/example/carmine/carmine/RedBlack$Row;" .null ∧ Fld Z h c1 "com/example/carmine/carmine/RedBlack$Chain" "items" "Ljava/util/Iterator;" .null ∧ Fld Z h c1 "com/example/carmine/carmine/RedBlack$Chain" "maker" "Ljava/util/function/Function;" .null ∧ Fld Z h c1 "com/example/carmine/carmine/RedBlack$Chain" "redDepth" "I" (.int (0 : Int32))
set_option maxRecDepth 65536 in
set_option maxHeartbeats 40000000 in
theorem rm9b (l : Launch) (Z : State) (a0 : Array Value) (hw : ∀ d ∈ tables_1, d.before a0 Z = true) (ws : List Jvm.Cond) (c1 : Addr) (a1 : Addr) (h0 : Heap) (n0 : Nat) (Z0 : n0 ≤ h0.size) (F_next_c1 : Fld Z h0 c1 "com/example/carmine/carmine/RedBlack$Chain" "next" "Lcom/example/carmine/carmine/Node;" .null) (F_row_c1 : Fld Z h0 c1 "com/example/carmine/carmine/RedBlack$Chain" "row" "Lcom/example/carmine/carmine/RedBlack$Row;" .null) (F_items_c1 : Fld Z h0 c1 "com/example/carmine/carmine/RedBlack$Chain" "items" "Ljava/util/Iterator;" .null) (F_maker_c1 : Fld Z h0 c1 "com/example/carmine/carmine/RedBlack$Chain" "maker" "Ljava/util/function/Function;" .null) (F_redDepth_c1 : Fld Z h0 c1 "com/example/carmine/carmine/RedBlack$Chain" "redDepth" "I" (.int (0 : Int32))) (E_c1 : Exa Z h0 c1 "com/example/carmine/carmine/RedBlack$Chain") (g_c1 : n0 ≤ c1) :
    MetFree l (⟨"com/example/carmine/carmine/RedBlack$Chain", "<init>", "(Lcom/example/carmine/carmine/Node;Lcom/example/carmine/carmine/RedBlack$Row;Ljava/util/Iterator;Ljava/util/function/Function;)V"⟩ : MethodName) (head1 (Jvm.Cond.code (⟨"com/example/carmine/carmine/RedBlack$Chain", "<init>", "(Lcom/example/carmine/carmine/Node;Lcom/example/carmine/carmine/RedBlack$Row;Ljava/util/Iterator;Ljava/util/function/Function;)V"⟩ : MethodName) prog_9_method_1_code 5 none :: ws) ({ frames := 1, cells := 0, slots := 0, locals := 12 } : Room)) (fun a U => a = #[(.ref c1), (.ref a1), .null, .null, .null] ∧ Z.Warmed39 U.vm ∧ U.heap = h0) (fun _ _ _ _ _ => True) (fun _ U o U' => ∃ v L, o = .returned v ∧ Q9b Z c1 a1 h0 n0 v U'.heap L ∧ FrameEnd U o U' L ({ frames := 1, cells := 0, slots := 0, locals := 12 } : Room).cells ({ frames := 1, cells := 0, slots := 0, locals := 12 } : Room).slots) := by
  refine MetFree.of_bodySF (plainFor_of_name pn_9b) hisR ?_
  intro p e s m args below meth c s₁ Bd hml0 hP hK
  obtain ⟨rfl, hZ, hh⟩ := hP
  have hx := Bd.exec
  have hby := Bd.bytes
  have hml : c.maxLocals = 5 := hml0
  have hown : s.vm.findClass "com/example/carmine/carmine/RedBlack$Chain" = some m.cls := findClass_of_methodNamed Bd.named
  have hnm := (name_of_methodNamed Bd.named Bd.method).1
  have X0 : Stand p l e ({ frames := 1, cells := 0, slots := 0, locals := 12 } : Room) s m #[(.ref c1), (.ref a1), .null, .null, .null] below meth c s₁ [] 0 0 := Stand.of_body Bd
  have e0 : s₁.heap = h0 := by rw [← hh, Bd.state]; rfl
  have N0 := Fr.nil n0
  refine goB (ef_9b m c1 a1) ?_
  show Go p.tables e below s₁ (mkF m 0 #[.val (.ref c1), .val (.ref a1), .val .null, .val .null, .val .null] []) _
  refine go1 (fun _ => XS.aloadN X0.here hx rfl (hb hby d9_0) rfl rfl) ?_
  show Go p.tables e below s₁ (mkF m 1 #[.val (.ref c1), .val (.ref a1), .val .null, .val .null, .val .null] [(.ref c1)]) _
  obtain ⟨T1, X1, e1, st1⟩ := initO X0 hx hZ hown (hw _ (List.mem_of_getElem? (i := 61) rfl)) (hw _ (List.mem_of_getElem? (i := 14) rfl)) (hw _ (List.mem_of_getElem? (i := 15) rfl)) e0 (g := (mkF m 1 #[.val (.ref c1), .val (.ref a1), .val .null, .val .null, .val .null] [(.ref c1)])) rfl (by rw [hml]; rfl) rfl (hb hby d9_1) (by decide) (W := 0) (by show 2 * 0 + _ ≤ _; exact Nat.le_of_eq rfl) (by decide)
  refine go1 st1 ?_
  show Go p.tables e below T1 (mkF m 4 #[.val (.ref c1), .val (.ref a1), .val .null, .val .null, .val .null] []) _
  refine go1 (fun _ => XS.aloadN X1.here hx rfl (hb hby d9_4) rfl rfl) ?_
  show Go p.tables e below T1 (mkF m 5 #[.val (.ref c1), .val (.ref a1), .val .null, .val .null, .val .null] [(.ref c1)]) _
  refine go1 (fun _ => XS.aloadN X1.here hx rfl (hb hby d9_5) rfl rfl) ?_
  show Go p.tables e below T1 (mkF m 6 #[.val (.ref c1), .val (.ref a1), .val .null, .val .null, .val .null] [(.ref a1), (.ref c1)]) _
  obtain ⟨T2, h2, X2, e2, W2, st2⟩ := putF X1 hx hZ hown (host := "") (Or.inl (hw _ (List.mem_of_getElem? (i := 62) rfl))) Via.refl e1 F_next_c1 E_c1 (Or.inl (hw _ (List.mem_of_getElem? (i := 63) rfl))) (hw _ (List.mem_of_getElem? (i := 54) rfl)) (ty := (.object "com/example/carmine/carmine/Node")) (by decide) rfl rfl (g := (mkF m 6 #[.val (.ref c1), .val (.ref a1), .val .null, .val .null, .val .null] [(.ref a1), (.ref c1)])) rfl rfl (hb hby d9_6)
  refine go1 st2 ?_
  have Fw2 := F_next_c1.same W2
  have N2 := Fr.snoc X2 N0 g_c1
  show Go p.tables e below T2 (mkF m 9 #[.val (.ref c1), .val (.ref a1), .val .null, .val .null, .val .null] []) _
  refine go1 (fun _ => XS.aloadN X2.here hx rfl (hb hby d9_9) rfl rfl) ?_
  show Go p.tables e below T2 (mkF m 10 #[.val (.ref c1), .val (.ref a1), .val .null, .val .null, .val .null] [(.ref c1)]) _
  refine go1 (fun _ => XS.aloadN X2.here hx rfl (hb hby d9_10) rfl rfl) ?_
  show Go p.tables e below T2 (mkF m 11 #[.val (.ref c1), .val (.ref a1), .val .null, .val .null, .val .null] [.null, (.ref c1)]) _
  obtain ⟨T3, h3, X3, e3, W3, st3⟩ := putF X2 hx hZ hown (host := "") (Or.inl (hw _ (List.mem_of_getElem? (i := 64) rfl))) Via.refl e2 (F_row_c1.other W2 (Or.inr (slot_ne (Or.inr (hw _ (List.mem_of_getElem? (i := 65) rfl))) (Or.inl (hw _ (List.mem_of_getElem? (i := 63) rfl))) (by decide) (t := (.object "com/example/carmine/carmine/RedBlack$Row")) (t' := (.object "com/example/carmine/carmine/Node")) (by decide) (by decide)))) (E_c1.wr W2) (Or.inr ⟨(hw _ (List.mem_of_getElem? (i := 65) rfl)), rfl, hnm⟩) (hw _ (List.mem_of_getElem? (i := 54) rfl)) (ty := (.object "com/example/carmine/carmine/RedBlack$Row")) (by decide) rfl rfl (g := (mkF m 11 #[.val (.ref c1), .val (.ref a1), .val .null, .val .null, .val .null] [.null, (.ref c1)])) rfl rfl (hb hby d9_11)
  refine go1 st3 ?_
  have Fw3 := (F_row_c1.other W2 (Or.inr (slot_ne (Or.inr (hw _ (List.mem_of_getElem? (i := 65) rfl))) (Or.inl (hw _ (List.mem_of_getElem? (i := 63) rfl))) (by decide) (t := (.object "com/example/carmine/carmine/RedBlack$Row")) (t' := (.object "com/example/carmine/carmine/Node")) (by decide) (by decide)))).same W3
  have N3 := Fr.snoc X3 N2 g_c1
  show Go p.tables e below T3 (mkF m 14 #[.val (.ref c1), .val (.ref a1), .val .null, .val .null, .val .null] []) _
  refine go1 (fun _ => XS.aloadN X3.here hx rfl (hb hby d9_14) rfl rfl) ?_
  show Go p.tables e below T3 (mkF m 15 #[.val (.ref c1), .val (.ref a1), .val .null, .val .null, .val .null] [(.ref c1)]) _
  refine go1 (fun _ => XS.aloadN X3.here hx rfl (hb hby d9_15) rfl rfl) ?_
  show Go p.tables e below T3 (mkF m 16 #[.val (.ref c1), .val (.ref a1), .val .null, .val .null, .val .null] [.null, (.ref c1)]) _
  obtain ⟨T4, h4, X4, e4, W4, st4⟩ := putF X3 hx hZ hown (host := "") (Or.inl (hw _ (List.mem_of_getElem? (i := 66) rfl))) Via.refl e3 ((F_items_c1.other W2 (Or.inr (slot_ne (Or.inr (hw _ (List.mem_of_getElem? (i := 67) rfl))) (Or.inl (hw _ (List.mem_of_getElem? (i := 63) rfl))) (by decide) (t := (.object "java/util/Iterator")) (t' := (.object "com/example/carmine/carmine/Node")) (by decide) (by decide)))).other W3 (Or.inr (slot_ne (Or.inr (hw _ (List.mem_of_getElem? (i := 67) rfl))) (Or.inr (hw _ (List.mem_of_getElem? (i := 65) rfl))) (by decide) (t := (.object "java/util/Iterator")) (t' := (.object "com/example/carmine/carmine/RedBlack$Row")) (by decide) (by decide)))) ((E_c1.wr W2).wr W3) (Or.inr ⟨(hw _ (List.mem_of_getElem? (i := 67) rfl)), rfl, hnm⟩) (hw _ (List.mem_of_getElem? (i := 54) rfl)) (ty := (.object "java/util/Iterator")) (by decide) rfl rfl (g := (mkF m 16 #[.val (.ref c1), .val (.ref a1), .val .null, .val .null, .val .null] [.null, (.ref c1)])) rfl rfl (hb hby d9_16)
  refine go1 st4 ?_
  have Fw4 := ((F_items_c1.other W2 (Or.inr (slot_ne (Or.inr (hw _ (List.mem_of_getElem? (i := 67) rfl))) (Or.inl (hw _ (List.mem_of_getElem? (i := 63) rfl))) (by decide) (t := (.object "java/util/Iterator")) (t' := (.object "com/example/carmine/carmine/Node")) (by decide) (by decide)))).other W3 (Or.inr (slot_ne (Or.inr (hw _ (List.mem_of_getElem? (i := 67) rfl))) (Or.inr (hw _ (List.mem_of_getElem? (i := 65) rfl))) (by decide) (t := (.object "java/util/Iterator")) (t' := (.object "com/example/carmine/carmine/RedBlack$Row")) (by decide) (by decide)))).same W4
  have N4 := Fr.snoc X4 N3 g_c1
  show Go p.tables e below T4 (mkF m 19 #[.val (.ref c1), .val (.ref a1), .val .null, .val .null, .val .null] []) _
  refine go1 (fun _ => XS.aloadN X4.here hx rfl (hb hby d9_19) rfl rfl) ?_
  show Go p.tables e below T4 (mkF m 20 #[.val (.ref c1), .val (.ref a1), .val .null, .val .null, .val .null] [(.ref c1)]) _
  refine go1 (fun _ => XS.aload X4.here hx rfl (hb hby d9_20) rfl rfl) ?_
  show Go p.tables e below T4 (mkF m 22 #[.val (.ref c1), .val (.ref a1), .val .null, .val .null, .val .null] [.null, (.ref c1)]) _
  obtain ⟨T5, h5, X5, e5, W5, st5⟩ := putF X4 hx hZ hown (host := "") (Or.inl (hw _ (List.mem_of_getElem? (i := 68) rfl))) Via.refl e4 (((F_maker_c1.other W2 (Or.inr (slot_ne (Or.inr (hw _ (List.mem_of_getElem? (i := 69) rfl))) (Or.inl (hw _ (List.mem_of_getElem? (i := 63) rfl))) (by decide) (t := (.object "java/util/function/Function")) (t' := (.object "com/example/carmine/carmine/Node")) (by decide) (by decide)))).other W3 (Or.inr (slot_ne (Or.inr (hw _ (List.mem_of_getElem? (i := 69) rfl))) (Or.inr (hw _ (List.mem_of_getElem? (i := 65) rfl))) (by decide) (t := (.object "java/util/function/Function")) (t' := (.object "com/example/carmine/carmine/RedBlack$Row")) (by decide) (by decide)))).other W4 (Or.inr (slot_ne (Or.inr (hw _ (List.mem_of_getElem? (i := 69) rfl))) (Or.inr (hw _ (List.mem_of_getElem? (i := 67) rfl))) (by decide) (t := (.object "java/util/function/Function")) (t' := (.object "java/util/Iterator")) (by decide) (by decide)))) (((E_c1.wr W2).wr W3).wr W4) (Or.inr ⟨(hw _ (List.mem_of_getElem? (i := 69) rfl)), rfl, hnm⟩) (hw _ (List.mem_of_getElem? (i := 54) rfl)) (ty := (.object "java/util/function/Function")) (by decide) rfl rfl (g := (mkF m 22 #[.val (.ref c1), .val (.ref a1), .val .null, .val .null, .val .null] [.null, (.ref c1)])) rfl rfl (hb hby d9_22)
  refine go1 st5 ?_
  have Fw5 := (((F_maker_c1.other W2 (Or.inr (slot_ne (Or.inr (hw _ (List.mem_of_getElem? (i := 69) rfl))) (Or.inl (hw _ (List.mem_of_getElem? (i := 63) rfl))) (by decide) (t := (.object "java/util/function/Function")) (t' := (.object "com/example/carmine/carmine/Node")) (by decide) (by decide)))).other W3 (Or.inr (slot_ne (Or.inr (hw _ (List.mem_of_getElem? (i := 69) rfl))) (Or.inr (hw _ (List.mem_of_getElem? (i := 65) rfl))) (by decide) (t := (.object "java/util/function/Function")) (t' := (.object "com/example/carmine/carmine/RedBlack$Row")) (by decide) (by decide)))).other W4 (Or.inr (slot_ne (Or.inr (hw _ (List.mem_of_getElem? (i := 69) rfl))) (Or.inr (hw _ (List.mem_of_getElem? (i := 67) rfl))) (by decide) (t := (.object "java/util/function/Function")) (t' := (.object "java/util/Iterator")) (by decide) (by decide)))).same W5
  have N5 := Fr.snoc X5 N4 g_c1
  show Go p.tables e below T5 (mkF m 25 #[.val (.ref c1), .val (.ref a1), .val .null, .val .null, .val .null] []) _
  refine goR X5 (BodyLoose.notSynchronized Bd) (v := none) (fun _ => rfl) (Q9b Z c1 a1 h0 n0) (fun fs hr => X5.returnOut hx Bd.returns (hb hby d9_25) hr) (by decide) (by decide) ?_
  show Q9b Z c1 a1 h0 n0 _ T5.heap _
  rw [e5]
  exact ⟨rfl, N5, (((((Keep.refl h0 [c1]).wr W2 (Or.inl (List.mem_of_getElem? (i := 0) rfl))).wr W3 (Or.inl (List.mem_of_getElem? (i := 0) rfl))).wr W4 (Or.inl (List.mem_of_getElem? (i := 0) rfl))).wr W5 (Or.inl (List.mem_of_getElem? (i := 0) rfl))), ((((E_c1.wr W2).wr W3).wr W4).wr W5), (((Fw2.other W3 (Or.inr (slot_ne (Or.inl (hw _ (List.mem_of_getElem? (i := 63) rfl))) (Or.inr (hw _ (List.mem_of_getElem? (i := 65) rfl))) (by decide) (t := (.object "com/example/carmine/carmine/Node")) (t' := (.object "com/example/carmine/carmine/RedBlack$Row")) (by decide) (by decide)))).other W4 (Or.inr (slot_ne (Or.inl (hw _ (List.mem_of_getElem? (i := 63) rfl))) (Or.inr (hw _ (List.mem_of_getElem? (i := 67) rfl))) (by decide) (t := (.object "com/example/carmine/carmine/Node")) (t' := (.object "java/util/Iterator")) (by decide) (by decide)))).other W5 (Or.inr (slot_ne (Or.inl (hw _ (List.mem_of_getElem? (i := 63) rfl))) (Or.inr (hw _ (List.mem_of_getElem? (i := 69) rfl))) (by decide) (t := (.object "com/example/carmine/carmine/Node")) (t' := (.object "java/util/function/Function")) (by decide) (by decide)))), ((Fw3.other W4 (Or.inr (slot_ne (Or.inr (hw _ (List.mem_of_getElem? (i := 65) rfl))) (Or.inr (hw _ (List.mem_of_getElem? (i := 67) rfl))) (by decide) (t := (.object "com/example/carmine/carmine/RedBlack$Row")) (t' := (.object "java/util/Iterator")) (by decide) (by decide)))).other W5 (Or.inr (slot_ne (Or.inr (hw _ (List.mem_of_getElem? (i := 65) rfl))) (Or.inr (hw _ (List.mem_of_getElem? (i := 69) rfl))) (by decide) (t := (.object "com/example/carmine/carmine/RedBlack$Row")) (t' := (.object "java/util/function/Function")) (by decide) (by decide)))), (Fw4.other W5 (Or.inr (slot_ne (Or.inr (hw _ (List.mem_of_getElem? (i := 67) rfl))) (Or.inr (hw _ (List.mem_of_getElem? (i := 69) rfl))) (by decide) (t := (.object "java/util/Iterator")) (t' := (.object "java/util/function/Function")) (by decide) (by decide)))), Fw5, ((((F_redDepth_c1.other W2 (Or.inr (slot_ne (Or.inl (hw _ (List.mem_of_getElem? (i := 80) rfl))) (Or.inl (hw _ (List.mem_of_getElem? (i := 63) rfl))) (by decide) (t := .int) (t' := (.object "com/example/carmine/carmine/Node")) (by decide) (by decide)))).other W3 (Or.inr (slot_ne (Or.inl (hw _ (List.mem_of_getElem? (i := 80) rfl))) (Or.inr (hw _ (List.mem_of_getElem? (i := 65) rfl))) (by decide) (t := .int) (t' := (.object "com/example/carmine/carmine/RedBlack$Row")) (by decide) (by decide)))).other W4 (Or.inr (slot_ne (Or.inl (hw _ (List.mem_of_getElem? (i := 80) rfl))) (Or.inr (hw _ (List.mem_of_getElem? (i := 67) rfl))) (by decide) (t := .int) (t' := (.object "java/util/Iterator")) (by decide) (by decide)))).other W5 (Or.inr (slot_ne (Or.inl (hw _ (List.mem_of_getElem? (i := 80) rfl))) (Or.inr (hw _ (List.mem_of_getElem? (i := 69) rfl))) (by decide) (t := .int) (t' := (.object "java/util/function/Function")) (by decide) (by decide))))⟩
theorem d14_0 : decode prog_9_method_5_code 0 = .ok (.aload_n 0, 1) := by decide +kernel
theorem d14_1 : decode prog_9_method_5_code 1 = .ok (.getfield 13, 3) := by decide +kernel
theorem d14_4 : decode prog_9_method_5_code 4 = .ok (.ifnull 25, 3) := by decide +kernel
theorem d14_29 : decode prog_9_method_5_code 29 = .ok (.aload_n 0, 1) := by decide +kernel
theorem d14_30 : decode prog_9_method_5_code 30 = .ok (.getfield 17, 3) := by decide +kernel
theorem d14_33 : decode prog_9_method_5_code 33 = .ok (.ifnull 28, 3) := by decide +kernel
theorem d14_61 : decode prog_9_method_5_code 61 = .ok (.aload_n 0, 1) := by decide +kernel
theorem d14_62 : decode prog_9_method_5_code 62 = .ok (.getfield 7, 3) := by decide +kernel
theorem d14_65 : decode prog_9_method_5_code 65 = .ok (.astore_n 1, 1) := by decide +kernel
theorem d14_66 : decode prog_9_method_5_code 66 = .ok (.aload_n 0, 1) := by decide +kernel
theorem d14_67 : decode prog_9_method_5_code 67 = .ok (.aload_n 1, 1) := by decide +kernel
theorem d14_68 : decode prog_9_method_5_code 68 = .ok (.getfield 51, 3) := by decide +kernel
theorem d14_71 : decode prog_9_method_5_code 71 = .ok (.putfield 7, 3) := by decide +kernel
theorem d14_74 : decode prog_9_method_5_code 74 = .ok (.aload_n 1, 1) := by decide +kernel
theorem d14_75 : decode prog_9_method_5_code 75 = .ok (.areturn, 1) := by decide +kernel
theorem pn_14 : plainName "com/example/carmine/carmine/RedBlack$Chain" = true := by first | (simp [plainName, overriddenIn]; done) | decide +kernel
theorem ef_14 (m : MethodId) (c1 : Addr) : entryFrame m #[(.ref c1)] 2 = mkF m 0 #[.val (.ref c1), .unset] [] := by first | (simp [entryFrame, mkF, argsToLocals, Value.category]; done) | rfl
def Q14 (Z : State) (c1 : Addr) (a1 : Addr) (u : Value) (rd : Int32) (h0 : Heap) (n0 : Nat) (v : Option Value) (h : Heap) (L : List Loc) : Prop := v = some (.ref a1) ∧ Fr n0 L ∧ Keep h0 h [c1] ∧ Exa Z h c1 "com/example/carmine/carmine/RedBlack$Chain" ∧ Fld Z h c1 "com/example/carmine/carmine/RedBlack$Chain" "row" "Lcom/example/carmine/carmine/RedBlack$Row;" .null ∧ Fld Z h c1 "com/example/carmine/carmine/RedBlack$Chain" "items" "Ljava/util/Iterator;" .null ∧ Fld Z h c1 "com/example/carmine/carmine/RedBlack$Chain" "redDepth" "I" (.int rd) ∧ Fld Z h c1 "com/example/carmine/carmine/RedBlack$Chain" "next" "Lcom/example/carmine/carmine/Node;" u
set_option maxRecDepth 65536 in
set_option maxHeartbeats 40000000 in
theorem rm14 (l : Launch) (Z : State) (a0 : Array Value) (hw : ∀ d ∈ tables_1, d.before a0 Z = true) (ws : List Jvm.Cond) (c1 : Addr) (a1 : Addr) (u : Value) (rd : Int32) (h0 : Heap) (n0 : Nat) (Z0 : n0 ≤ h0.size) (F_row_c1 : Fld Z h0 c1 "com/example/carmine/carmine/RedBlack$Chain" "row" "Lcom/example/carmine/carmine/RedBlack$Row;" .null) (F_items_c1 : Fld Z h0 c1 "com/example/carmine/carmine/RedBlack$Chain" "items" "Ljava/util/Iterator;" .null) (F_redDepth_c1 : Fld Z h0 c1 "com/example/carmine/carmine/RedBlack$Chain" "redDepth" "I" (.int rd)) (F_next_c1 : Fld Z h0 c1 "com/example/carmine/carmine/RedBlack$Chain" "next" "Lcom/example/carmine/carmine/Node;" (.ref a1)) (F_right_a1 : Fld Z h0 a1 "com/example/carmine/carmine/Node" "right" "Lcom/example/carmine/carmine/Node;" u) (hu : u.isRef = true) (hne : a1 ≠ c1) (E_c1 : Exa Z h0 c1 "com/example/carmine/carmine/RedBlack$Chain") (g_c1 : n0 ≤ c1) :
    MetFree l (⟨"com/example/carmine/carmine/RedBlack$Chain", "next", "()Lcom/example/carmine/carmine/Node;"⟩ : MethodName) (head1 (Jvm.Cond.code (⟨"com/example/carmine/carmine/RedBlack$Chain", "next", "()Lcom/example/carmine/carmine/Node;"⟩ : MethodName) prog_9_method_5_code 2 (some (.object "com/example/carmine/carmine/Node")) :: ws) ({ frames := 0, cells := 0, slots := 0, locals := 0 } : Room)) (fun a U => a = #[(.ref c1)] ∧ Z.Warmed39 U.vm ∧ U.heap = h0) (fun _ _ _ _ _ => True) (fun _ U o U' => ∃ v L, o = .returned v ∧ Q14 Z c1 a1 u rd h0 n0 v U'.heap L ∧ FrameEnd U o U' L ({ frames := 0, cells := 0, slots := 0, locals := 0 } : Room).cells ({ frames := 0, cells := 0, slots := 0, locals := 0 } : Room).slots) := by
  refine MetFree.of_bodySF (plainFor_of_name pn_14) hisR ?_
  intro p e s m args below meth c s₁ Bd hml0 hP hK
  obtain ⟨rfl, hZ, hh⟩ := hP
  have hx := Bd.exec
  have hby := Bd.bytes
  have hml : c.maxLocals = 2 := hml0
  have hown : s.vm.findClass "com/example/carmine/carmine/RedBlack$Chain" = some m.cls := findClass_of_methodNamed Bd.named
  have hnm := (name_of_methodNamed Bd.named Bd.method).1
  have X0 : Stand p l e ({ frames := 0, cells := 0, slots := 0, locals := 0 } : Room) s m #[(.ref c1)] below meth c s₁ [] 0 0 := Stand.of_body Bd
  have e0 : s₁.heap = h0 := by rw [← hh, Bd.state]; rfl
  have N0 := Fr.nil n0
  refine goB (ef_14 m c1) ?_
  show Go p.tables e below s₁ (mkF m 0 #[.val (.ref c1), .unset] []) _
  refine go1 (fun _ => XS.aloadN X0.here hx rfl (hb hby d14_0) rfl rfl) ?_
  show Go p.tables e below s₁ (mkF m 1 #[.val (.ref c1), .unset] [(.ref c1)]) _
  obtain ⟨T1, X1, e1, st1⟩ := getF X0 hx hZ hown (host := "") (Or.inl (hw _ (List.mem_of_getElem? (i := 64) rfl))) Via.refl e0 F_row_c1 (g := (mkF m 1 #[.val (.ref c1), .unset] [(.ref c1)])) rfl rfl (hb hby d14_1)
  refine go1 st1 ?_
  show Go p.tables e below T1 (mkF m 4 #[.val (.ref c1), .unset] [.null]) _
  refine go1 (fun _ => XS.ifnullYes X1.here hx rfl (pc0 := 4) (pc' := 29) rfl (hb hby d14_4) rfl (by decide) (by decide)) ?_
  show Go p.tables e below T1 (mkF m 29 #[.val (.ref c1), .unset] []) _
  refine go1 (fun _ => XS.aloadN X1.here hx rfl (hb hby d14_29) rfl rfl) ?_
  show Go p.tables e below T1 (mkF m 30 #[.val (.ref c1), .unset] [(.ref c1)]) _
  obtain ⟨T2, X2, e2, st2⟩ := getF X1 hx hZ hown (host := "") (Or.inl (hw _ (List.mem_of_getElem? (i := 66) rfl))) Via.refl e1 F_items_c1 (g := (mkF m 30 #[.val (.ref c1), .unset] [(.ref c1)])) rfl rfl (hb hby d14_30)
  refine go1 st2 ?_
  show Go p.tables e below T2 (mkF m 33 #[.val (.ref c1), .unset] [.null]) _
  refine go1 (fun _ => XS.ifnullYes X2.here hx rfl (pc0 := 33) (pc' := 61) rfl (hb hby d14_33) rfl (by decide) (by decide)) ?_
  show Go p.tables e below T2 (mkF m 61 #[.val (.ref c1), .unset] []) _
  refine go1 (fun _ => XS.aloadN X2.here hx rfl (hb hby d14_61) rfl rfl) ?_
  show Go p.tables e below T2 (mkF m 62 #[.val (.ref c1), .unset] [(.ref c1)]) _
  obtain ⟨T3, X3, e3, st3⟩ := getF X2 hx hZ hown (host := "") (Or.inl (hw _ (List.mem_of_getElem? (i := 62) rfl))) Via.refl e2 F_next_c1 (g := (mkF m 62 #[.val (.ref c1), .unset] [(.ref c1)])) rfl rfl (hb hby d14_62)
  refine go1 st3 ?_
  show Go p.tables e below T3 (mkF m 65 #[.val (.ref c1), .unset] [(.ref a1)]) _
  refine go1 (fun _ => XS.astoreN X3.here hx rfl (hb hby d14_65) rfl rfl (l' := #[.val (.ref c1), .val (.ref a1)]) rfl) ?_
  show Go p.tables e below T3 (mkF m 66 #[.val (.ref c1), .val (.ref a1)] []) _
  refine go1 (fun _ => XS.aloadN X3.here hx rfl (hb hby d14_66) rfl rfl) ?_
  show Go p.tables e below T3 (mkF m 67 #[.val (.ref c1), .val (.ref a1)] [(.ref c1)]) _
  refine go1 (fun _ => XS.aloadN X3.here hx rfl (hb hby d14_67) rfl rfl) ?_
  show Go p.tables e below T3 (mkF m 68 #[.val (.ref c1), .val (.ref a1)] [(.ref a1), (.ref c1)]) _
  obtain ⟨T4, X4, e4, st4⟩ := getF X3 hx hZ hown (host := "") (Or.inl (hw _ (List.mem_of_getElem? (i := 98) rfl))) Via.refl e3 F_right_a1 (g := (mkF m 68 #[.val (.ref c1), .val (.ref a1)] [(.ref a1), (.ref c1)])) rfl rfl (hb hby d14_68)
  refine go1 st4 ?_
  show Go p.tables e below T4 (mkF m 71 #[.val (.ref c1), .val (.ref a1)] [u, (.ref c1)]) _
  obtain ⟨T5, h5, X5, e5, W5, st5⟩ := putF X4 hx hZ hown (host := "") (Or.inl (hw _ (List.mem_of_getElem? (i := 62) rfl))) Via.refl e4 F_next_c1 E_c1 (Or.inl (hw _ (List.mem_of_getElem? (i := 63) rfl))) (hw _ (List.mem_of_getElem? (i := 54) rfl)) (ty := (.object "com/example/carmine/carmine/Node")) (by decide) rfl (fitsG hu) (g := (mkF m 71 #[.val (.ref c1), .val (.ref a1)] [u, (.ref c1)])) rfl rfl (hb hby d14_71)
  refine go1 st5 ?_
  have Fw5 := F_next_c1.same W5
  have N5 := Fr.snoc X5 N0 g_c1
  show Go p.tables e below T5 (mkF m 74 #[.val (.ref c1), .val (.ref a1)] []) _
  refine go1 (fun _ => XS.aloadN X5.here hx rfl (hb hby d14_74) rfl rfl) ?_
  show Go p.tables e below T5 (mkF m 75 #[.val (.ref c1), .val (.ref a1)] [(.ref a1)]) _
  refine goR X5 (BodyLoose.notSynchronized Bd) (v := (some (.ref a1))) (fun h => by rw [Bd.returns] at h; cases h) (Q14 Z c1 a1 u rd h0 n0) (fun fs hr => retOut X5 hx (t := (.object "com/example/carmine/carmine/Node")) (w := (.ref a1)) Bd.returns rfl (Or.inr (Or.inr (Or.inr (Or.inr ⟨rfl, rfl, rfl⟩)))) (hb hby d14_75) hr) (by decide) (by decide) ?_
  show Q14 Z c1 a1 u rd h0 n0 _ T5.heap _
  rw [e5]
  exact ⟨rfl, N5, ((Keep.refl h0 [c1]).wr W5 (Or.inl (List.mem_of_getElem? (i := 0) rfl))), (E_c1.wr W5), (F_row_c1.other W5 (Or.inr (slot_ne (Or.inr (hw _ (List.mem_of_getElem? (i := 65) rfl))) (Or.inl (hw _ (List.mem_of_getElem? (i := 63) rfl))) (by decide) (t := (.object "com/example/carmine/carmine/RedBlack$Row")) (t' := (.object "com/example/carmine/carmine/Node")) (by decide) (by decide)))), (F_items_c1.other W5 (Or.inr (slot_ne (Or.inr (hw _ (List.mem_of_getElem? (i := 67) rfl))) (Or.inl (hw _ (List.mem_of_getElem? (i := 63) rfl))) (by decide) (t := (.object "java/util/Iterator")) (t' := (.object "com/example/carmine/carmine/Node")) (by decide) (by decide)))), (F_redDepth_c1.other W5 (Or.inr (slot_ne (Or.inl (hw _ (List.mem_of_getElem? (i := 80) rfl))) (Or.inl (hw _ (List.mem_of_getElem? (i := 63) rfl))) (by decide) (t := .int) (t' := (.object "com/example/carmine/carmine/Node")) (by decide) (by decide)))), Fw5⟩
theorem d15_0 : decode prog_9_method_4_code 0 = .ok (.aload_n 0, 1) := by decide +kernel
theorem d15_1 : decode prog_9_method_4_code 1 = .ok (.invokevirtual 39, 3) := by decide +kernel
theorem d15_4 : decode prog_9_method_4_code 4 = .ok (.astore_n 1, 1) := by decide +kernel
theorem d15_5 : decode prog_9_method_4_code 5 = .ok (.aload_n 1, 1) := by decide +kernel
theorem d15_6 : decode prog_9_method_4_code 6 = .ok (.iconst 0, 1) := by decide +kernel
theorem d15_7 : decode prog_9_method_4_code 7 = .ok (.iconst 0, 1) := by decide +kernel
theorem d15_8 : decode prog_9_method_4_code 8 = .ok (.iconst 1, 1) := by decide +kernel
theorem d15_9 : decode prog_9_method_4_code 9 = .ok (.invokevirtual 42, 3) := by decide +kernel
theorem d15_12 : decode prog_9_method_4_code 12 = .ok (.aload_n 1, 1) := by decide +kernel
theorem d15_13 : decode prog_9_method_4_code 13 = .ok (.aconst_null, 1) := by decide +kernel
theorem d15_14 : decode prog_9_method_4_code 14 = .ok (.putfield 48, 3) := by decide +kernel
theorem d15_17 : decode prog_9_method_4_code 17 = .ok (.aload_n 1, 1) := by decide +kernel
theorem d15_18 : decode prog_9_method_4_code 18 = .ok (.aconst_null, 1) := by decide +kernel
theorem d15_19 : decode prog_9_method_4_code 19 = .ok (.putfield 51, 3) := by decide +kernel
theorem d15_22 : decode prog_9_method_4_code 22 = .ok (.aload_n 1, 1) := by decide +kernel
theorem d15_23 : decode prog_9_method_4_code 23 = .ok (.areturn, 1) := by decide +kernel
theorem pn_15 : plainName "com/example/carmine/carmine/RedBlack$Chain" = true := by first | (simp [plainName, overriddenIn]; done) | decide +kernel
theorem pd15_0 : parseMethodDescriptor "()Lcom/example/carmine/carmine/Node;" = some ⟨[], some (.object "com/example/carmine/carmine/Node")⟩ := by decide +kernel
theorem pd15_1 : parseMethodDescriptor "(ZZI)V" = some ⟨[.boolean, .boolean, .int], none⟩ := by decide +kernel
theorem ef_15 (m : MethodId) (c1 : Addr) : entryFrame m #[(.ref c1)] 2 = mkF m 0 #[.val (.ref c1), .unset] [] := by first | (simp [entryFrame, mkF, argsToLocals, Value.category]; done) | rfl
def Q15 (Z : State) (c1 : Addr) (a1 : Addr) (u : Value) (rd : Int32) (xl : Value) (f1 : Int32) (h0 : Heap) (n0 : Nat) (v : Option Value) (h : Heap) (L : List Loc) : Prop := v = some (.ref a1) ∧ Fr n0 L ∧ Keep h0 h [c1, a1] ∧ Exa Z h c1 "com/example/carmine/carmine/RedBlack$Chain" ∧ Exa Z h a1 "com/example/carmine/carmine/Node" ∧ Fld Z h c1 "com/example/carmine/carmine/RedBlack$Chain" "row" "Lcom/example/carmine/carmine/RedBlack$Row;" .null ∧ Fld Z h c1 "com/example/carmine/carmine/RedBlack$Chain" "items" "Ljava/util/Iterator;" .null ∧ Fld Z h c1 "com/example/carmine/carmine/RedBlack$Chain" "redDepth" "I" (.int rd) ∧ Fld Z h c1 "com/example/carmine/carmine/RedBlack$Chain" "next" "Lcom/example/carmine/carmine/Node;" u ∧ Fld Z h a1 "com/example/carmine/carmine/Node" "left" "Lcom/example/carmine/carmine/Node;" .null ∧ Fld Z h a1 "com/example/carmine/carmine/Node" "sizeAndColours" "I" (.int (((if (0 : Int32) = (0 : Int32) then (0 : Int32) else (-2147483648 : Int32)) ||| (if (0 : Int32) = (0 : Int32) then (0 : Int32) else (1073741824 : Int32))) ||| (1 : Int32))) ∧ Fld Z h a1 "com/example/carmine/carmine/Node" "right" "Lcom/example/carmine/carmine/Node;" .null
set_option maxRecDepth 65536 in
set_option maxHeartbeats 40000000 in
theorem rm15 (l : Launch) (Z : State) (a0 : Array Value) (hw : ∀ d ∈ tables_1, d.before a0 Z = true) (ws : List Jvm.Cond) (c1 : Addr) (a1 : Addr) (u : Value) (rd : Int32) (xl : Value) (f1 : Int32) (h0 : Heap) (n0 : Nat) (Z0 : n0 ≤ h0.size) (F_row_c1 : Fld Z h0 c1 "com/example/carmine/carmine/RedBlack$Chain" "row" "Lcom/example/carmine/carmine/RedBlack$Row;" .null) (F_items_c1 : Fld Z h0 c1 "com/example/carmine/carmine/RedBlack$Chain" "items" "Ljava/util/Iterator;" .null) (F_redDepth_c1 : Fld Z h0 c1 "com/example/carmine/carmine/RedBlack$Chain" "redDepth" "I" (.int rd)) (F_next_c1 : Fld Z h0 c1 "com/example/carmine/carmine/RedBlack$Chain" "next" "Lcom/example/carmine/carmine/Node;" (.ref a1)) (F_left_a1 : Fld Z h0 a1 "com/example/carmine/carmine/Node" "left" "Lcom/example/carmine/carmine/Node;" xl) (F_sizeAndColours_a1 : Fld Z h0 a1 "com/example/carmine/carmine/Node" "sizeAndColours" "I" (.int f1)) (F_right_a1 : Fld Z h0 a1 "com/example/carmine/carmine/Node" "right" "Lcom/example/carmine/carmine/Node;" u) (hu : u.isRef = true) (hne : a1 ≠ c1) (E_c1 : Exa Z h0 c1 "com/example/carmine/carmine/RedBlack$Chain") (g_c1 : n0 ≤ c1) (E_a1 : Exa Z h0 a1 "com/example/carmine/carmine/Node") (g_a1 : n0 ≤ a1) :
    MetFree l (⟨"com/example/carmine/carmine/RedBlack$Chain", "leaf", "()Lcom/example/carmine/carmine/Node;"⟩ : MethodName) (head1 (Jvm.Cond.code (⟨"com/example/carmine/carmine/RedBlack$Chain", "leaf", "()Lcom/example/carmine/carmine/Node;"⟩ : MethodName) prog_9_method_4_code 2 (some (.object "com/example/carmine/carmine/Node")) :: ws) ({ frames := 1, cells := 0, slots := 0, locals := 15 } : Room)) (fun a U => a = #[(.ref c1)] ∧ Z.Warmed39 U.vm ∧ U.heap = h0) (fun _ _ _ _ _ => True) (fun _ U o U' => ∃ v L, o = .returned v ∧ Q15 Z c1 a1 u rd xl f1 h0 n0 v U'.heap L ∧ FrameEnd U o U' L ({ frames := 1, cells := 0, slots := 0, locals := 15 } : Room).cells ({ frames := 1, cells := 0, slots := 0, locals := 15 } : Room).slots) := by
  refine MetFree.of_bodySF (plainFor_of_name pn_15) hisR ?_
  intro p e s m args below meth c s₁ Bd hml0 hP hK
  obtain ⟨rfl, hZ, hh⟩ := hP
  have hx := Bd.exec
  have hby := Bd.bytes
  have hml : c.maxLocals = 2 := hml0
  have hown : s.vm.findClass "com/example/carmine/carmine/RedBlack$Chain" = some m.cls := findClass_of_methodNamed Bd.named
  have hnm := (name_of_methodNamed Bd.named Bd.method).1
  have X0 : Stand p l e ({ frames := 1, cells := 0, slots := 0, locals := 15 } : Room) s m #[(.ref c1)] below meth c s₁ [] 0 0 := Stand.of_body Bd
  have e0 : s₁.heap = h0 := by rw [← hh, Bd.state]; rfl
  have N0 := Fr.nil n0
  refine goB (ef_15 m c1) ?_
  show Go p.tables e below s₁ (mkF m 0 #[.val (.ref c1), .unset] []) _
  refine go1 (fun _ => XS.aloadN X0.here hx rfl (hb hby d15_0) rfl rfl) ?_
  show Go p.tables e below s₁ (mkF m 1 #[.val (.ref c1), .unset] [(.ref c1)]) _
  obtain ⟨cq1, q1, q1'⟩ := E_c1.cell
  obtain ⟨_, _, ⟨T1, L1, k1, n1⟩, -, X1, ⟨Lc1, hQ1, l1, y1, z1⟩, st1⟩ := X0.privateBack hx (y := (⟨"com/example/carmine/carmine/RedBlack$Chain", "next", "()Lcom/example/carmine/carmine/Node;"⟩ : MethodName)) hown (mvT hZ (hw _ (List.mem_of_getElem? (i := 94) rfl))) (mvT hZ (hw _ (List.mem_of_getElem? (i := 95) rfl))) (selPriv hZ (hw _ (List.mem_of_getElem? (i := 54) rfl)) (hw _ (List.mem_of_getElem? (i := 96) rfl)) (hw _ (List.mem_of_getElem? (i := 95) rfl)) (by decide)) (Cond.privateMethod_at (mvP hZ (hw _ (List.mem_of_getElem? (i := 96) rfl)) (args := #[]))) (mvT hZ (hw _ (List.mem_of_getElem? (i := 97) rfl))) (by decide) (backOf (W := 0) (rm14 l Z a0 hw [] c1 a1 u rd h0 n0 Z0 F_row_c1 F_items_c1 F_redDepth_c1 F_next_c1 F_right_a1 hu hne E_c1 g_c1) hZ (hw _ (List.mem_of_getElem? (i := 97) rfl)) (hw _ (List.mem_of_getElem? (i := 55) rfl)) (by decide) (by decide)) (g := (mkF m 1 #[.val (.ref c1), .unset] [(.ref c1)])) rfl (by rw [hml]; rfl) (Steps.refl _) (a := c1) (by rw [e0]; exact q1) q1' (argsL := []) (rest := []) (lenOf pd15_0 rfl) rfl (by show 2 * 0 + _ ≤ _; exact Nat.le_of_eq rfl) (hb hby d15_1) (fun _ _ => ⟨rfl, e0, (by decide : 0 + 0 ≤ _), (by decide : 0 + 0 ≤ _)⟩)
  dsimp only [Pt.U, Pt.locs, Pt.cells, Pt.slots] at X1 l1 y1 z1 st1 hQ1
  subst l1 y1 z1
  obtain ⟨rfl, N1q, K1, G1_0, G1_1, G1_2, G1_3, G1_4⟩ := hQ1
  have N1 := Fr.app N0 N1q
  refine goT st1 ?_
  show Go p.tables e below T1 (mkF m 4 #[.val (.ref c1), .unset] [(.ref a1)]) _
  refine go1 (fun _ => XS.astoreN X1.here hx rfl (hb hby d15_4) rfl rfl (l' := #[.val (.ref c1), .val (.ref a1)]) rfl) ?_
  show Go p.tables e below T1 (mkF m 5 #[.val (.ref c1), .val (.ref a1)] []) _
  refine go1 (fun _ => XS.aloadN X1.here hx rfl (hb hby d15_5) rfl rfl) ?_
  show Go p.tables e below T1 (mkF m 6 #[.val (.ref c1), .val (.ref a1)] [(.ref a1)]) _
  refine go1 (fun _ => XS.iconst X1.here hx rfl (hb hby d15_6)) ?_
  show Go p.tables e below T1 (mkF m 7 #[.val (.ref c1), .val (.ref a1)] [(.int (0 : Int32)), (.ref a1)]) _
  refine go1 (fun _ => XS.iconst X1.here hx rfl (hb hby d15_7)) ?_
  show Go p.tables e below T1 (mkF m 8 #[.val (.ref c1), .val (.ref a1)] [(.int (0 : Int32)), (.int (0 : Int32)), (.ref a1)]) _
  refine go1 (fun _ => XS.iconst X1.here hx rfl (hb hby d15_8)) ?_
  show Go p.tables e below T1 (mkF m 9 #[.val (.ref c1), .val (.ref a1)] [(.int (1 : Int32)), (.int (0 : Int32)), (.int (0 : Int32)), (.ref a1)]) _
  obtain ⟨cq2, kq2, q2a, q2b, q2c⟩ := isOf hZ rfl (E_a1.keep K1)
  obtain ⟨_, _, ⟨T2, L2, k2, n2⟩, -, X2, ⟨Lc2, hQ2, l2, y2, z2⟩, st2⟩ := X1.virtualBack hx (y := (⟨"com/example/carmine/carmine/Node", "setColoursAndSize", "(ZZI)V"⟩ : MethodName)) (z := (⟨"com/example/carmine/carmine/Node", "setColoursAndSize", "(ZZI)V"⟩ : MethodName)) hown (mvT hZ (hw _ (List.mem_of_getElem? (i := 103) rfl))) (mvT hZ (hw _ (List.mem_of_getElem? (i := 104) rfl))) (notFace_of_selects (args := #[]) (mvT hZ (hw _ (List.mem_of_getElem? (i := 106) rfl)))) (mvT hZ (hw _ (List.mem_of_getElem? (i := 106) rfl))) (mvT hZ (hw _ (List.mem_of_getElem? (i := 105) rfl))) (by decide) (backOf (W := 0) (rm16 l Z a0 hw [] a1 (0 : Int32) (0 : Int32) (1 : Int32) f1 xl u T1.heap n0 (Nat.le_trans Z0 K1.1) (F_left_a1.keep K1 (ninS hne nin0)) (F_sizeAndColours_a1.keep K1 (ninS hne nin0)) (F_right_a1.keep K1 (ninS hne nin0)) (E_a1.keep K1) g_a1) hZ (hw _ (List.mem_of_getElem? (i := 107) rfl)) (hw _ (List.mem_of_getElem? (i := 2) rfl)) (by decide) (by decide)) q2a q2c (g := (mkF m 9 #[.val (.ref c1), .val (.ref a1)] [(.int (1 : Int32)), (.int (0 : Int32)), (.int (0 : Int32)), (.ref a1)])) rfl (by rw [hml]; rfl) (Steps.refl _) (argsL := [(.int (0 : Int32)), (.int (0 : Int32)), (.int (1 : Int32))]) (rest := []) (lenOf pd15_1 rfl) rfl (by show 2 * 0 + _ ≤ _; exact Nat.le_of_eq rfl) (hb hby d15_9) (fun _ _ => ⟨rfl, rfl, (by decide : 0 + 0 ≤ _), (by decide : 0 + 0 ≤ _)⟩)
  dsimp only [Pt.U, Pt.locs, Pt.cells, Pt.slots] at X2 l2 y2 z2 st2 hQ2
  subst l2 y2 z2
  obtain ⟨rfl, N2q, K2, G2_0, G2_1, G2_2, G2_3⟩ := hQ2
  have N2 := Fr.app N1 N2q
  refine goT st2 ?_
  show Go p.tables e below T2 (mkF m 12 #[.val (.ref c1), .val (.ref a1)] []) _
  refine go1 (fun _ => XS.aloadN X2.here hx rfl (hb hby d15_12) rfl rfl) ?_
  show Go p.tables e below T2 (mkF m 13 #[.val (.ref c1), .val (.ref a1)] [(.ref a1)]) _
  refine go1 (fun _ => XS.aconstNull X2.here hx rfl (hb hby d15_13)) ?_
  show Go p.tables e below T2 (mkF m 14 #[.val (.ref c1), .val (.ref a1)] [.null, (.ref a1)]) _
  obtain ⟨T3, h3, X3, e3, W3, st3⟩ := putF X2 hx hZ hown (host := "") (Or.inl (hw _ (List.mem_of_getElem? (i := 108) rfl))) Via.refl rfl G2_1 G2_0 (Or.inl (hw _ (List.mem_of_getElem? (i := 109) rfl))) (hw _ (List.mem_of_getElem? (i := 1) rfl)) (ty := (.object "com/example/carmine/carmine/Node")) (by decide) rfl rfl (g := (mkF m 14 #[.val (.ref c1), .val (.ref a1)] [.null, (.ref a1)])) rfl rfl (hb hby d15_14)
  refine go1 st3 ?_
  have Fw3 := G2_1.same W3
  have N3 := Fr.snoc X3 N2 g_a1
  show Go p.tables e below T3 (mkF m 17 #[.val (.ref c1), .val (.ref a1)] []) _
  refine go1 (fun _ => XS.aloadN X3.here hx rfl (hb hby d15_17) rfl rfl) ?_
  show Go p.tables e below T3 (mkF m 18 #[.val (.ref c1), .val (.ref a1)] [(.ref a1)]) _
  refine go1 (fun _ => XS.aconstNull X3.here hx rfl (hb hby d15_18)) ?_
  show Go p.tables e below T3 (mkF m 19 #[.val (.ref c1), .val (.ref a1)] [.null, (.ref a1)]) _
  obtain ⟨T4, h4, X4, e4, W4, st4⟩ := putF X3 hx hZ hown (host := "") (Or.inl (hw _ (List.mem_of_getElem? (i := 98) rfl))) Via.refl e3 (G2_3.other W3 (Or.inr (slot_ne (Or.inl (hw _ (List.mem_of_getElem? (i := 27) rfl))) (Or.inl (hw _ (List.mem_of_getElem? (i := 109) rfl))) (by decide) (t := (.object "com/example/carmine/carmine/Node")) (t' := (.object "com/example/carmine/carmine/Node")) (by decide) (by decide)))) (G2_0.wr W3) (Or.inl (hw _ (List.mem_of_getElem? (i := 27) rfl))) (hw _ (List.mem_of_getElem? (i := 1) rfl)) (ty := (.object "com/example/carmine/carmine/Node")) (by decide) rfl rfl (g := (mkF m 19 #[.val (.ref c1), .val (.ref a1)] [.null, (.ref a1)])) rfl rfl (hb hby d15_19)
  refine go1 st4 ?_
  have Fw4 := (G2_3.other W3 (Or.inr (slot_ne (Or.inl (hw _ (List.mem_of_getElem? (i := 27) rfl))) (Or.inl (hw _ (List.mem_of_getElem? (i := 109) rfl))) (by decide) (t := (.object "com/example/carmine/carmine/Node")) (t' := (.object "com/example/carmine/carmine/Node")) (by decide) (by decide)))).same W4
  have N4 := Fr.snoc X4 N3 g_a1
  show Go p.tables e below T4 (mkF m 22 #[.val (.ref c1), .val (.ref a1)] []) _
  refine go1 (fun _ => XS.aloadN X4.here hx rfl (hb hby d15_22) rfl rfl) ?_
  show Go p.tables e below T4 (mkF m 23 #[.val (.ref c1), .val (.ref a1)] [(.ref a1)]) _
  refine goR X4 (BodyLoose.notSynchronized Bd) (v := (some (.ref a1))) (fun h => by rw [Bd.returns] at h; cases h) (Q15 Z c1 a1 u rd xl f1 h0 n0) (fun fs hr => retOut X4 hx (t := (.object "com/example/carmine/carmine/Node")) (w := (.ref a1)) Bd.returns rfl (Or.inr (Or.inr (Or.inr (Or.inr ⟨rfl, rfl, rfl⟩)))) (hb hby d15_23) hr) (by decide) (by decide) ?_
  show Q15 Z c1 a1 u rd xl f1 h0 n0 _ T4.heap _
  rw [e4]
  exact ⟨rfl, N4, (((((Keep.refl h0 [c1, a1]).trans K1 (allS (Or.inl (List.mem_of_getElem? (i := 0) rfl)) all0)).trans K2 (allS (Or.inl (List.mem_of_getElem? (i := 1) rfl)) all0)).wr W3 (Or.inl (List.mem_of_getElem? (i := 1) rfl))).wr W4 (Or.inl (List.mem_of_getElem? (i := 1) rfl))), (((G1_0.keep K2).wr W3).wr W4), ((G2_0.wr W3).wr W4), (((G1_1.keep K2 (ninS (Ne.symm hne) nin0)).other W3 (Or.inl (Ne.symm hne))).other W4 (Or.inl (Ne.symm hne))), (((G1_2.keep K2 (ninS (Ne.symm hne) nin0)).other W3 (Or.inl (Ne.symm hne))).other W4 (Or.inl (Ne.symm hne))), (((G1_3.keep K2 (ninS (Ne.symm hne) nin0)).other W3 (Or.inl (Ne.symm hne))).other W4 (Or.inl (Ne.symm hne))), (((G1_4.keep K2 (ninS (Ne.symm hne) nin0)).other W3 (Or.inl (Ne.symm hne))).other W4 (Or.inl (Ne.symm hne))), (Fw3.other W4 (Or.inr (slot_ne (Or.inl (hw _ (List.mem_of_getElem? (i := 109) rfl))) (Or.inl (hw _ (List.mem_of_getElem? (i := 27) rfl))) (by decide) (t := (.object "com/example/carmine/carmine/Node")) (t' := (.object "com/example/carmine/carmine/Node")) (by decide) (by decide)))), ((G2_2.other W3 (Or.inr (slot_ne (Or.inl (hw _ (List.mem_of_getElem? (i := 21) rfl))) (Or.inl (hw _ (List.mem_of_getElem? (i := 109) rfl))) (by decide) (t := .int) (t' := (.object "com/example/carmine/carmine/Node")) (by decide) (by decide)))).other W4 (Or.inr (slot_ne (Or.inl (hw _ (List.mem_of_getElem? (i := 21) rfl))) (Or.inl (hw _ (List.mem_of_getElem? (i := 27) rfl))) (by decide) (t := .int) (t' := (.object "com/example/carmine/carmine/Node")) (by decide) (by decide)))), Fw4⟩
theorem d13_0 : decode prog_9_method_3_code 0 = .ok (.iload_n 1, 1) := by decide +kernel
theorem d13_1 : decode prog_9_method_3_code 1 = .ok (.iconst 3, 1) := by decide +kernel
theorem d13_2 : decode prog_9_method_3_code 2 = .ok (.if_icmp .le 59, 3) := by decide +kernel
theorem d13_61 : decode prog_9_method_3_code 61 = .ok (.iload_n 2, 1) := by decide +kernel
theorem d13_62 : decode prog_9_method_3_code 62 = .ok (.iconst 1, 1) := by decide +kernel
theorem d13_63 : decode prog_9_method_3_code 63 = .ok (.iadd, 1) := by decide +kernel
theorem d13_64 : decode prog_9_method_3_code 64 = .ok (.aload_n 0, 1) := by decide +kernel
theorem d13_65 : decode prog_9_method_3_code 65 = .ok (.getfield 31, 3) := by decide +kernel
theorem d13_68 : decode prog_9_method_3_code 68 = .ok (.if_icmp .ne 7, 3) := by decide +kernel
theorem d13_75 : decode prog_9_method_3_code 75 = .ok (.iconst 0, 1) := by decide +kernel
theorem d13_76 : decode prog_9_method_3_code 76 = .ok (.istore 4, 2) := by decide +kernel
theorem d13_78 : decode prog_9_method_3_code 78 = .ok (.iload_n 1, 1) := by decide +kernel
theorem d13_79 : decode prog_9_method_3_code 79 = .ok (.iconst 3, 1) := by decide +kernel
theorem d13_80 : decode prog_9_method_3_code 80 = .ok (.if_icmp .ne 10, 3) := by decide +kernel
theorem d13_90 : decode prog_9_method_3_code 90 = .ok (.aconst_null, 1) := by decide +kernel
theorem d13_91 : decode prog_9_method_3_code 91 = .ok (.astore 5, 2) := by decide +kernel
theorem d13_93 : decode prog_9_method_3_code 93 = .ok (.aload_n 0, 1) := by decide +kernel
theorem d13_94 : decode prog_9_method_3_code 94 = .ok (.invokevirtual 39, 3) := by decide +kernel
theorem d13_97 : decode prog_9_method_3_code 97 = .ok (.astore_n 3, 1) := by decide +kernel
theorem d13_98 : decode prog_9_method_3_code 98 = .ok (.iload_n 1, 1) := by decide +kernel
theorem d13_99 : decode prog_9_method_3_code 99 = .ok (.iconst 1, 1) := by decide +kernel
theorem d13_100 : decode prog_9_method_3_code 100 = .ok (.if_icmp .le 10, 3) := by decide +kernel
theorem d13_110 : decode prog_9_method_3_code 110 = .ok (.aconst_null, 1) := by decide +kernel
theorem d13_111 : decode prog_9_method_3_code 111 = .ok (.astore 6, 2) := by decide +kernel
theorem d13_113 : decode prog_9_method_3_code 113 = .ok (.aload_n 3, 1) := by decide +kernel
theorem d13_114 : decode prog_9_method_3_code 114 = .ok (.iload 4, 2) := by decide +kernel
theorem d13_116 : decode prog_9_method_3_code 116 = .ok (.ifCond .eq 12, 3) := by decide +kernel
theorem d13_128 : decode prog_9_method_3_code 128 = .ok (.iconst 0, 1) := by decide +kernel
theorem d13_129 : decode prog_9_method_3_code 129 = .ok (.iload 4, 2) := by decide +kernel
theorem d13_131 : decode prog_9_method_3_code 131 = .ok (.ifCond .eq 12, 3) := by decide +kernel
theorem d13_143 : decode prog_9_method_3_code 143 = .ok (.iconst 0, 1) := by decide +kernel
theorem d13_144 : decode prog_9_method_3_code 144 = .ok (.iload_n 1, 1) := by decide +kernel
theorem d13_145 : decode prog_9_method_3_code 145 = .ok (.invokevirtual 42, 3) := by decide +kernel
theorem d13_148 : decode prog_9_method_3_code 148 = .ok (.aload_n 3, 1) := by decide +kernel
theorem d13_149 : decode prog_9_method_3_code 149 = .ok (.aload 5, 2) := by decide +kernel
theorem d13_151 : decode prog_9_method_3_code 151 = .ok (.putfield 48, 3) := by decide +kernel
theorem d13_154 : decode prog_9_method_3_code 154 = .ok (.aload_n 3, 1) := by decide +kernel
theorem d13_155 : decode prog_9_method_3_code 155 = .ok (.aload 6, 2) := by decide +kernel
theorem d13_157 : decode prog_9_method_3_code 157 = .ok (.putfield 51, 3) := by decide +kernel
theorem d13_160 : decode prog_9_method_3_code 160 = .ok (.aload_n 3, 1) := by decide +kernel
theorem d13_161 : decode prog_9_method_3_code 161 = .ok (.areturn, 1) := by decide +kernel
theorem pn_13_1 : plainName "com/example/carmine/carmine/RedBlack$Chain" = true := by first | (simp [plainName, overriddenIn]; done) | decide +kernel
theorem pd13_1_0 : parseMethodDescriptor "()Lcom/example/carmine/carmine/Node;" = some ⟨[], some (.object "com/example/carmine/carmine/Node")⟩ := by decide +kernel
theorem pd13_1_1 : parseMethodDescriptor "(ZZI)V" = some ⟨[.boolean, .boolean, .int], none⟩ := by decide +kernel
theorem ef_13_1 (m : MethodId) (c1 : Addr) : entryFrame m #[(.ref c1), (.int (1 : Int32)), (.int (0 : Int32))] 7 = mkF m 0 #[.val (.ref c1), .val (.int (1 : Int32)), .val (.int (0 : Int32)), .unset, .unset, .unset, .unset] [] := by first | (simp [entryFrame, mkF, argsToLocals, Value.category]; done) | rfl
def Q13_1 (Z : State) (c1 : Addr) (a1 : Addr) (u : Value) (xl0 : Value) (f0 : Int32) (h0 : Heap) (n0 : Nat) (v : Option Value) (h : Heap) (L : List Loc) : Prop := v = some (.ref a1) ∧ Fr n0 L ∧ Keep h0 h [c1, a1] ∧ Exa Z h c1 "com/example/carmine/carmine/RedBlack$Chain" ∧ Exa Z h a1 "com/example/carmine/carmine/Node" ∧ Fld Z h a1 "com/example/carmine/carmine/Node" "left" "Lcom/example/carmine/carmine/Node;" .null ∧ Fld Z h a1 "com/example/carmine/carmine/Node" "right" "Lcom/example/carmine/carmine/Node;" .null
set_option maxRecDepth 65536 in
set_option maxHeartbeats 40000000 in
theorem rm13_1 (l : Launch) (Z : State) (a0 : Array Value) (hw : ∀ d ∈ tables_1, d.before a0 Z = true) (ws : List Jvm.Cond) (c1 : Addr) (a1 : Addr) (u : Value) (xl0 : Value) (f0 : Int32) (h0 : Heap) (n0 : Nat) (Z0 : n0 ≤ h0.size) (F_row_c1 : Fld Z h0 c1 "com/example/carmine/carmine/RedBlack$Chain" "row" "Lcom/example/carmine/carmine/RedBlack$Row;" .null) (F_items_c1 : Fld Z h0 c1 "com/example/carmine/carmine/RedBlack$Chain" "items" "Ljava/util/Iterator;" .null) (F_redDepth_c1 : Fld Z h0 c1 "com/example/carmine/carmine/RedBlack$Chain" "redDepth" "I" (.int (-1 : Int32))) (F_next_c1 : Fld Z h0 c1 "com/example/carmine/carmine/RedBlack$Chain" "next" "Lcom/example/carmine/carmine/Node;" (.ref a1)) (E_c1 : Exa Z h0 c1 "com/example/carmine/carmine/RedBlack$Chain") (g_c1 : n0 ≤ c1) (F_left_a1 : Fld Z h0 a1 "com/example/carmine/carmine/Node" "left" "Lcom/example/carmine/carmine/Node;" xl0) (F_sizeAndColours_a1 : Fld Z h0 a1 "com/example/carmine/carmine/Node" "sizeAndColours" "I" (.int f0)) (F_right_a1 : Fld Z h0 a1 "com/example/carmine/carmine/Node" "right" "Lcom/example/carmine/carmine/Node;" u) (E_a1 : Exa Z h0 a1 "com/example/carmine/carmine/Node") (g_a1 : n0 ≤ a1) (nc0 : a1 ≠ c1) (hu : u.isRef = true) :
    MetFree l (⟨"com/example/carmine/carmine/RedBlack$Chain", "subtree", "(II)Lcom/example/carmine/carmine/Node;"⟩ : MethodName) (head1 (Jvm.Cond.code (⟨"com/example/carmine/carmine/RedBlack$Chain", "subtree", "(II)Lcom/example/carmine/carmine/Node;"⟩ : MethodName) prog_9_method_3_code 7 (some (.object "com/example/carmine/carmine/Node")) :: ws) ({ frames := 1, cells := 0, slots := 0, locals := 15 } : Room)) (fun a U => a = #[(.ref c1), (.int (1 : Int32)), (.int (0 : Int32))] ∧ Z.Warmed39 U.vm ∧ U.heap = h0) (fun _ _ _ _ _ => True) (fun _ U o U' => ∃ v L, o = .returned v ∧ Q13_1 Z c1 a1 u xl0 f0 h0 n0 v U'.heap L ∧ FrameEnd U o U' L ({ frames := 1, cells := 0, slots := 0, locals := 15 } : Room).cells ({ frames := 1, cells := 0, slots := 0, locals := 15 } : Room).slots) := by
  refine MetFree.of_bodySF (plainFor_of_name pn_13_1) hisR ?_
  intro p e s m args below meth c s₁ Bd hml0 hP hK
  obtain ⟨rfl, hZ, hh⟩ := hP
  have hx := Bd.exec
  have hby := Bd.bytes
  have hml : c.maxLocals = 7 := hml0
  have hown : s.vm.findClass "com/example/carmine/carmine/RedBlack$Chain" = some m.cls := findClass_of_methodNamed Bd.named
  have hnm := (name_of_methodNamed Bd.named Bd.method).1
  have X0 : Stand p l e ({ frames := 1, cells := 0, slots := 0, locals := 15 } : Room) s m #[(.ref c1), (.int (1 : Int32)), (.int (0 : Int32))] below meth c s₁ [] 0 0 := Stand.of_body Bd
  have e0 : s₁.heap = h0 := by rw [← hh, Bd.state]; rfl
  have N0 := Fr.nil n0
  refine goB (ef_13_1 m c1) ?_
  show Go p.tables e below s₁ (mkF m 0 #[.val (.ref c1), .val (.int (1 : Int32)), .val (.int (0 : Int32)), .unset, .unset, .unset, .unset] []) _
  refine go1 (fun _ => XS.iloadN X0.here hx rfl (hb hby d13_0) rfl) ?_
  show Go p.tables e below s₁ (mkF m 1 #[.val (.ref c1), .val (.int (1 : Int32)), .val (.int (0 : Int32)), .unset, .unset, .unset, .unset] [(.int (1 : Int32))]) _
  refine go1 (fun _ => XS.iconst X0.here hx rfl (hb hby d13_1)) ?_
  show Go p.tables e below s₁ (mkF m 2 #[.val (.ref c1), .val (.int (1 : Int32)), .val (.int (0 : Int32)), .unset, .unset, .unset, .unset] [(.int (3 : Int32)), (.int (1 : Int32))]) _
  refine go1 (fun _ => XS.icmpYes X0.here hx rfl (pc0 := 2) (pc' := 61) rfl (hb hby d13_2) rfl (flt (by decide : ¬ ((3 : Int32) < (1 : Int32)))).2.2.2 (by decide) (by decide)) ?_
  show Go p.tables e below s₁ (mkF m 61 #[.val (.ref c1), .val (.int (1 : Int32)), .val (.int (0 : Int32)), .unset, .unset, .unset, .unset] []) _
  refine go1 (fun _ => XS.iloadN X0.here hx rfl (hb hby d13_61) rfl) ?_
  show Go p.tables e below s₁ (mkF m 62 #[.val (.ref c1), .val (.int (1 : Int32)), .val (.int (0 : Int32)), .unset, .unset, .unset, .unset] [(.int (0 : Int32))]) _
  refine go1 (fun _ => XS.iconst X0.here hx rfl (hb hby d13_62)) ?_
  show Go p.tables e below s₁ (mkF m 63 #[.val (.ref c1), .val (.int (1 : Int32)), .val (.int (0 : Int32)), .unset, .unset, .unset, .unset] [(.int (1 : Int32)), (.int (0 : Int32))]) _
  refine go1 (fun _ => XS.iadd X0.here hx rfl (hb hby d13_63) rfl) ?_
  show Go p.tables e below s₁ (mkF m 64 #[.val (.ref c1), .val (.int (1 : Int32)), .val (.int (0 : Int32)), .unset, .unset, .unset, .unset] [(.int (1 : Int32))]) _
  refine go1 (fun _ => XS.aloadN X0.here hx rfl (hb hby d13_64) rfl rfl) ?_
  show Go p.tables e below s₁ (mkF m 65 #[.val (.ref c1), .val (.int (1 : Int32)), .val (.int (0 : Int32)), .unset, .unset, .unset, .unset] [(.ref c1), (.int (1 : Int32))]) _
  obtain ⟨T1, X1, e1, st1⟩ := getF X0 hx hZ hown (host := "") (Or.inl (hw _ (List.mem_of_getElem? (i := 79) rfl))) Via.refl e0 F_redDepth_c1 (g := (mkF m 65 #[.val (.ref c1), .val (.int (1 : Int32)), .val (.int (0 : Int32)), .unset, .unset, .unset, .unset] [(.ref c1), (.int (1 : Int32))])) rfl rfl (hb hby d13_65)
  refine go1 st1 ?_
  show Go p.tables e below T1 (mkF m 68 #[.val (.ref c1), .val (.int (1 : Int32)), .val (.int (0 : Int32)), .unset, .unset, .unset, .unset] [(.int (-1 : Int32)), (.int (1 : Int32))]) _
  refine go1 (fun _ => XS.icmpYes X1.here hx rfl (pc0 := 68) (pc' := 75) rfl (hb hby d13_68) rfl (feq (by decide : ¬ ((1 : Int32) = (-1 : Int32)))).2 (by decide) (by decide)) ?_
  show Go p.tables e below T1 (mkF m 75 #[.val (.ref c1), .val (.int (1 : Int32)), .val (.int (0 : Int32)), .unset, .unset, .unset, .unset] []) _
  refine go1 (fun _ => XS.iconst X1.here hx rfl (hb hby d13_75)) ?_
  show Go p.tables e below T1 (mkF m 76 #[.val (.ref c1), .val (.int (1 : Int32)), .val (.int (0 : Int32)), .unset, .unset, .unset, .unset] [(.int (0 : Int32))]) _
  refine go1 (fun _ => XS.istore X1.here hx rfl (hb hby d13_76) rfl (l' := #[.val (.ref c1), .val (.int (1 : Int32)), .val (.int (0 : Int32)), .unset, .val (.int (0 : Int32)), .unset, .unset]) rfl) ?_
  show Go p.tables e below T1 (mkF m 78 #[.val (.ref c1), .val (.int (1 : Int32)), .val (.int (0 : Int32)), .unset, .val (.int (0 : Int32)), .unset, .unset] []) _
  refine go1 (fun _ => XS.iloadN X1.here hx rfl (hb hby d13_78) rfl) ?_
  show Go p.tables e below T1 (mkF m 79 #[.val (.ref c1), .val (.int (1 : Int32)), .val (.int (0 : Int32)), .unset, .val (.int (0 : Int32)), .unset, .unset] [(.int (1 : Int32))]) _
  refine go1 (fun _ => XS.iconst X1.here hx rfl (hb hby d13_79)) ?_
  show Go p.tables e below T1 (mkF m 80 #[.val (.ref c1), .val (.int (1 : Int32)), .val (.int (0 : Int32)), .unset, .val (.int (0 : Int32)), .unset, .unset] [(.int (3 : Int32)), (.int (1 : Int32))]) _
  refine go1 (fun _ => XS.icmpYes X1.here hx rfl (pc0 := 80) (pc' := 90) rfl (hb hby d13_80) rfl (feq (by decide : ¬ ((1 : Int32) = (3 : Int32)))).2 (by decide) (by decide)) ?_
  show Go p.tables e below T1 (mkF m 90 #[.val (.ref c1), .val (.int (1 : Int32)), .val (.int (0 : Int32)), .unset, .val (.int (0 : Int32)), .unset, .unset] []) _
  refine go1 (fun _ => XS.aconstNull X1.here hx rfl (hb hby d13_90)) ?_
  show Go p.tables e below T1 (mkF m 91 #[.val (.ref c1), .val (.int (1 : Int32)), .val (.int (0 : Int32)), .unset, .val (.int (0 : Int32)), .unset, .unset] [.null]) _
  refine go1 (fun _ => XS.astore X1.here hx rfl (hb hby d13_91) rfl rfl (l' := #[.val (.ref c1), .val (.int (1 : Int32)), .val (.int (0 : Int32)), .unset, .val (.int (0 : Int32)), .val .null, .unset]) rfl) ?_
  show Go p.tables e below T1 (mkF m 93 #[.val (.ref c1), .val (.int (1 : Int32)), .val (.int (0 : Int32)), .unset, .val (.int (0 : Int32)), .val .null, .unset] []) _
  refine go1 (fun _ => XS.aloadN X1.here hx rfl (hb hby d13_93) rfl rfl) ?_
  show Go p.tables e below T1 (mkF m 94 #[.val (.ref c1), .val (.int (1 : Int32)), .val (.int (0 : Int32)), .unset, .val (.int (0 : Int32)), .val .null, .unset] [(.ref c1)]) _
  obtain ⟨cq2, q2, q2'⟩ := E_c1.cell
  obtain ⟨_, _, ⟨T2, L2, k2, n2⟩, -, X2, ⟨Lc2, hQ2, l2, y2, z2⟩, st2⟩ := X1.privateBack hx (y := (⟨"com/example/carmine/carmine/RedBlack$Chain", "next", "()Lcom/example/carmine/carmine/Node;"⟩ : MethodName)) hown (mvT hZ (hw _ (List.mem_of_getElem? (i := 94) rfl))) (mvT hZ (hw _ (List.mem_of_getElem? (i := 95) rfl))) (selPriv hZ (hw _ (List.mem_of_getElem? (i := 54) rfl)) (hw _ (List.mem_of_getElem? (i := 96) rfl)) (hw _ (List.mem_of_getElem? (i := 95) rfl)) (by decide)) (Cond.privateMethod_at (mvP hZ (hw _ (List.mem_of_getElem? (i := 96) rfl)) (args := #[]))) (mvT hZ (hw _ (List.mem_of_getElem? (i := 97) rfl))) (by decide) (backOf (W := 0) (rm14 l Z a0 hw [] c1 a1 u (-1 : Int32) h0 n0 Z0 F_row_c1 F_items_c1 F_redDepth_c1 F_next_c1 F_right_a1 hu nc0 E_c1 g_c1) hZ (hw _ (List.mem_of_getElem? (i := 97) rfl)) (hw _ (List.mem_of_getElem? (i := 55) rfl)) (by decide) (by decide)) (g := (mkF m 94 #[.val (.ref c1), .val (.int (1 : Int32)), .val (.int (0 : Int32)), .unset, .val (.int (0 : Int32)), .val .null, .unset] [(.ref c1)])) rfl (by rw [hml]; rfl) (Steps.refl _) (a := c1) (by rw [e1]; exact q2) q2' (argsL := []) (rest := []) (lenOf pd13_1_0 rfl) rfl (by show 2 * 0 + _ ≤ _; exact Nat.le_of_eq rfl) (hb hby d13_94) (fun _ _ => ⟨rfl, e1, (by decide : 0 + 0 ≤ _), (by decide : 0 + 0 ≤ _)⟩)
  dsimp only [Pt.U, Pt.locs, Pt.cells, Pt.slots] at X2 l2 y2 z2 st2 hQ2
  subst l2 y2 z2
  obtain ⟨rfl, N2q, K2, G2_0, G2_1, G2_2, G2_3, G2_4⟩ := hQ2
  have N2 := Fr.app N0 N2q
  refine goT st2 ?_
  show Go p.tables e below T2 (mkF m 97 #[.val (.ref c1), .val (.int (1 : Int32)), .val (.int (0 : Int32)), .unset, .val (.int (0 : Int32)), .val .null, .unset] [(.ref a1)]) _
  refine go1 (fun _ => XS.astoreN X2.here hx rfl (hb hby d13_97) rfl rfl (l' := #[.val (.ref c1), .val (.int (1 : Int32)), .val (.int (0 : Int32)), .val (.ref a1), .val (.int (0 : Int32)), .val .null, .unset]) rfl) ?_
  show Go p.tables e below T2 (mkF m 98 #[.val (.ref c1), .val (.int (1 : Int32)), .val (.int (0 : Int32)), .val (.ref a1), .val (.int (0 : Int32)), .val .null, .unset] []) _
  refine go1 (fun _ => XS.iloadN X2.here hx rfl (hb hby d13_98) rfl) ?_
  show Go p.tables e below T2 (mkF m 99 #[.val (.ref c1), .val (.int (1 : Int32)), .val (.int (0 : Int32)), .val (.ref a1), .val (.int (0 : Int32)), .val .null, .unset] [(.int (1 : Int32))]) _
  refine go1 (fun _ => XS.iconst X2.here hx rfl (hb hby d13_99)) ?_
  show Go p.tables e below T2 (mkF m 100 #[.val (.ref c1), .val (.int (1 : Int32)), .val (.int (0 : Int32)), .val (.ref a1), .val (.int (0 : Int32)), .val .null, .unset] [(.int (1 : Int32)), (.int (1 : Int32))]) _
  refine go1 (fun _ => XS.icmpYes X2.here hx rfl (pc0 := 100) (pc' := 110) rfl (hb hby d13_100) rfl (flt (by decide : ¬ ((1 : Int32) < (1 : Int32)))).2.2.2 (by decide) (by decide)) ?_
  show Go p.tables e below T2 (mkF m 110 #[.val (.ref c1), .val (.int (1 : Int32)), .val (.int (0 : Int32)), .val (.ref a1), .val (.int (0 : Int32)), .val .null, .unset] []) _
  refine go1 (fun _ => XS.aconstNull X2.here hx rfl (hb hby d13_110)) ?_
  show Go p.tables e below T2 (mkF m 111 #[.val (.ref c1), .val (.int (1 : Int32)), .val (.int (0 : Int32)), .val (.ref a1), .val (.int (0 : Int32)), .val .null, .unset] [.null]) _
  refine go1 (fun _ => XS.astore X2.here hx rfl (hb hby d13_111) rfl rfl (l' := #[.val (.ref c1), .val (.int (1 : Int32)), .val (.int (0 : Int32)), .val (.ref a1), .val (.int (0 : Int32)), .val .null, .val .null]) rfl) ?_
  show Go p.tables e below T2 (mkF m 113 #[.val (.ref c1), .val (.int (1 : Int32)), .val (.int (0 : Int32)), .val (.ref a1), .val (.int (0 : Int32)), .val .null, .val .null] []) _
  refine go1 (fun _ => XS.aloadN X2.here hx rfl (hb hby d13_113) rfl rfl) ?_
  show Go p.tables e below T2 (mkF m 114 #[.val (.ref c1), .val (.int (1 : Int32)), .val (.int (0 : Int32)), .val (.ref a1), .val (.int (0 : Int32)), .val .null, .val .null] [(.ref a1)]) _
  refine go1 (fun _ => XS.iload X2.here hx rfl (hb hby d13_114) rfl) ?_
  show Go p.tables e below T2 (mkF m 116 #[.val (.ref c1), .val (.int (1 : Int32)), .val (.int (0 : Int32)), .val (.ref a1), .val (.int (0 : Int32)), .val .null, .val .null] [(.int (0 : Int32)), (.ref a1)]) _
  refine go1 (fun _ => XS.ifYes X2.here hx rfl (pc0 := 116) (pc' := 128) rfl (hb hby d13_116) rfl ((if0 _ _).trans (teq (by decide : (0 : Int32) = (0 : Int32))).1) (by decide) (by decide)) ?_
  show Go p.tables e below T2 (mkF m 128 #[.val (.ref c1), .val (.int (1 : Int32)), .val (.int (0 : Int32)), .val (.ref a1), .val (.int (0 : Int32)), .val .null, .val .null] [(.ref a1)]) _
  refine go1 (fun _ => XS.iconst X2.here hx rfl (hb hby d13_128)) ?_
  show Go p.tables e below T2 (mkF m 129 #[.val (.ref c1), .val (.int (1 : Int32)), .val (.int (0 : Int32)), .val (.ref a1), .val (.int (0 : Int32)), .val .null, .val .null] [(.int (0 : Int32)), (.ref a1)]) _
  refine go1 (fun _ => XS.iload X2.here hx rfl (hb hby d13_129) rfl) ?_
  show Go p.tables e below T2 (mkF m 131 #[.val (.ref c1), .val (.int (1 : Int32)), .val (.int (0 : Int32)), .val (.ref a1), .val (.int (0 : Int32)), .val .null, .val .null] [(.int (0 : Int32)), (.int (0 : Int32)), (.ref a1)]) _
  refine go1 (fun _ => XS.ifYes X2.here hx rfl (pc0 := 131) (pc' := 143) rfl (hb hby d13_131) rfl ((if0 _ _).trans (teq (by decide : (0 : Int32) = (0 : Int32))).1) (by decide) (by decide)) ?_
  show Go p.tables e below T2 (mkF m 143 #[.val (.ref c1), .val (.int (1 : Int32)), .val (.int (0 : Int32)), .val (.ref a1), .val (.int (0 : Int32)), .val .null, .val .null] [(.int (0 : Int32)), (.ref a1)]) _
  refine go1 (fun _ => XS.iconst X2.here hx rfl (hb hby d13_143)) ?_
  show Go p.tables e below T2 (mkF m 144 #[.val (.ref c1), .val (.int (1 : Int32)), .val (.int (0 : Int32)), .val (.ref a1), .val (.int (0 : Int32)), .val .null, .val .null] [(.int (0 : Int32)), (.int (0 : Int32)), (.ref a1)]) _
  refine go1 (fun _ => XS.iloadN X2.here hx rfl (hb hby d13_144) rfl) ?_
  show Go p.tables e below T2 (mkF m 145 #[.val (.ref c1), .val (.int (1 : Int32)), .val (.int (0 : Int32)), .val (.ref a1), .val (.int (0 : Int32)), .val .null, .val .null] [(.int (1 : Int32)), (.int (0 : Int32)), (.int (0 : Int32)), (.ref a1)]) _
  obtain ⟨cq3, kq3, q3a, q3b, q3c⟩ := isOf hZ rfl (E_a1.keep K2)
  obtain ⟨_, _, ⟨T3, L3, k3, n3⟩, -, X3, ⟨Lc3, hQ3, l3, y3, z3⟩, st3⟩ := X2.virtualBack hx (y := (⟨"com/example/carmine/carmine/Node", "setColoursAndSize", "(ZZI)V"⟩ : MethodName)) (z := (⟨"com/example/carmine/carmine/Node", "setColoursAndSize", "(ZZI)V"⟩ : MethodName)) hown (mvT hZ (hw _ (List.mem_of_getElem? (i := 103) rfl))) (mvT hZ (hw _ (List.mem_of_getElem? (i := 104) rfl))) (notFace_of_selects (args := #[]) (mvT hZ (hw _ (List.mem_of_getElem? (i := 106) rfl)))) (mvT hZ (hw _ (List.mem_of_getElem? (i := 106) rfl))) (mvT hZ (hw _ (List.mem_of_getElem? (i := 105) rfl))) (by decide) (backOf (W := 0) (rm16 l Z a0 hw [] a1 (0 : Int32) (0 : Int32) (1 : Int32) f0 xl0 u T2.heap n0 (Nat.le_trans Z0 K2.1) (F_left_a1.keep K2 (ninS nc0 nin0)) (F_sizeAndColours_a1.keep K2 (ninS nc0 nin0)) (F_right_a1.keep K2 (ninS nc0 nin0)) (E_a1.keep K2) g_a1) hZ (hw _ (List.mem_of_getElem? (i := 107) rfl)) (hw _ (List.mem_of_getElem? (i := 2) rfl)) (by decide) (by decide)) q3a q3c (g := (mkF m 145 #[.val (.ref c1), .val (.int (1 : Int32)), .val (.int (0 : Int32)), .val (.ref a1), .val (.int (0 : Int32)), .val .null, .val .null] [(.int (1 : Int32)), (.int (0 : Int32)), (.int (0 : Int32)), (.ref a1)])) rfl (by rw [hml]; rfl) (Steps.refl _) (argsL := [(.int (0 : Int32)), (.int (0 : Int32)), (.int (1 : Int32))]) (rest := []) (lenOf pd13_1_1 rfl) rfl (by show 2 * 0 + _ ≤ _; exact Nat.le_of_eq rfl) (hb hby d13_145) (fun _ _ => ⟨rfl, rfl, (by decide : 0 + 0 ≤ _), (by decide : 0 + 0 ≤ _)⟩)
  dsimp only [Pt.U, Pt.locs, Pt.cells, Pt.slots] at X3 l3 y3 z3 st3 hQ3
  subst l3 y3 z3
  obtain ⟨rfl, N3q, K3, G3_0, G3_1, G3_2, G3_3⟩ := hQ3
  have N3 := Fr.app N2 N3q
  refine goT st3 ?_
  show Go p.tables e below T3 (mkF m 148 #[.val (.ref c1), .val (.int (1 : Int32)), .val (.int (0 : Int32)), .val (.ref a1), .val (.int (0 : Int32)), .val .null, .val .null] []) _
  refine go1 (fun _ => XS.aloadN X3.here hx rfl (hb hby d13_148) rfl rfl) ?_
  show Go p.tables e below T3 (mkF m 149 #[.val (.ref c1), .val (.int (1 : Int32)), .val (.int (0 : Int32)), .val (.ref a1), .val (.int (0 : Int32)), .val .null, .val .null] [(.ref a1)]) _
  refine go1 (fun _ => XS.aload X3.here hx rfl (hb hby d13_149) rfl rfl) ?_
  show Go p.tables e below T3 (mkF m 151 #[.val (.ref c1), .val (.int (1 : Int32)), .val (.int (0 : Int32)), .val (.ref a1), .val (.int (0 : Int32)), .val .null, .val .null] [.null, (.ref a1)]) _
  obtain ⟨T4, h4, X4, e4, W4, st4⟩ := putF X3 hx hZ hown (host := "") (Or.inl (hw _ (List.mem_of_getElem? (i := 108) rfl))) Via.refl rfl G3_1 G3_0 (Or.inl (hw _ (List.mem_of_getElem? (i := 109) rfl))) (hw _ (List.mem_of_getElem? (i := 1) rfl)) (ty := (.object "com/example/carmine/carmine/Node")) (by decide) rfl rfl (g := (mkF m 151 #[.val (.ref c1), .val (.int (1 : Int32)), .val (.int (0 : Int32)), .val (.ref a1), .val (.int (0 : Int32)), .val .null, .val .null] [.null, (.ref a1)])) rfl rfl (hb hby d13_151)
  refine go1 st4 ?_
  have Fw4 := G3_1.same W4
  have N4 := Fr.snoc X4 N3 g_a1
  show Go p.tables e below T4 (mkF m 154 #[.val (.ref c1), .val (.int (1 : Int32)), .val (.int (0 : Int32)), .val (.ref a1), .val (.int (0 : Int32)), .val .null, .val .null] []) _
  refine go1 (fun _ => XS.aloadN X4.here hx rfl (hb hby d13_154) rfl rfl) ?_
  show Go p.tables e below T4 (mkF m 155 #[.val (.ref c1), .val (.int (1 : Int32)), .val (.int (0 : Int32)), .val (.ref a1), .val (.int (0 : Int32)), .val .null, .val .null] [(.ref a1)]) _
  refine go1 (fun _ => XS.aload X4.here hx rfl (hb hby d13_155) rfl rfl) ?_
  show Go p.tables e below T4 (mkF m 157 #[.val (.ref c1), .val (.int (1 : Int32)), .val (.int (0 : Int32)), .val (.ref a1), .val (.int (0 : Int32)), .val .null, .val .null] [.null, (.ref a1)]) _
  obtain ⟨T5, h5, X5, e5, W5, st5⟩ := putF X4 hx hZ hown (host := "") (Or.inl (hw _ (List.mem_of_getElem? (i := 98) rfl))) Via.refl e4 (G3_3.other W4 (Or.inr (slot_ne (Or.inl (hw _ (List.mem_of_getElem? (i := 27) rfl))) (Or.inl (hw _ (List.mem_of_getElem? (i := 109) rfl))) (by decide) (t := (.object "com/example/carmine/carmine/Node")) (t' := (.object "com/example/carmine/carmine/Node")) (by decide) (by decide)))) (G3_0.wr W4) (Or.inl (hw _ (List.mem_of_getElem? (i := 27) rfl))) (hw _ (List.mem_of_getElem? (i := 1) rfl)) (ty := (.object "com/example/carmine/carmine/Node")) (by decide) rfl rfl (g := (mkF m 157 #[.val (.ref c1), .val (.int (1 : Int32)), .val (.int (0 : Int32)), .val (.ref a1), .val (.int (0 : Int32)), .val .null, .val .null] [.null, (.ref a1)])) rfl rfl (hb hby d13_157)
  refine go1 st5 ?_
  have Fw5 := (G3_3.other W4 (Or.inr (slot_ne (Or.inl (hw _ (List.mem_of_getElem? (i := 27) rfl))) (Or.inl (hw _ (List.mem_of_getElem? (i := 109) rfl))) (by decide) (t := (.object "com/example/carmine/carmine/Node")) (t' := (.object "com/example/carmine/carmine/Node")) (by decide) (by decide)))).same W5
  have N5 := Fr.snoc X5 N4 g_a1
  show Go p.tables e below T5 (mkF m 160 #[.val (.ref c1), .val (.int (1 : Int32)), .val (.int (0 : Int32)), .val (.ref a1), .val (.int (0 : Int32)), .val .null, .val .null] []) _
  refine go1 (fun _ => XS.aloadN X5.here hx rfl (hb hby d13_160) rfl rfl) ?_
  show Go p.tables e below T5 (mkF m 161 #[.val (.ref c1), .val (.int (1 : Int32)), .val (.int (0 : Int32)), .val (.ref a1), .val (.int (0 : Int32)), .val .null, .val .null] [(.ref a1)]) _
  refine goR X5 (BodyLoose.notSynchronized Bd) (v := (some (.ref a1))) (fun h => by rw [Bd.returns] at h; cases h) (Q13_1 Z c1 a1 u xl0 f0 h0 n0) (fun fs hr => retOut X5 hx (t := (.object "com/example/carmine/carmine/Node")) (w := (.ref a1)) Bd.returns rfl (Or.inr (Or.inr (Or.inr (Or.inr ⟨rfl, rfl, rfl⟩)))) (hb hby d13_161) hr) (by decide) (by decide) ?_
  show Q13_1 Z c1 a1 u xl0 f0 h0 n0 _ T5.heap _
  rw [e5]
  exact ⟨rfl, N5, (((((Keep.refl h0 [c1, a1]).trans K2 (allS (Or.inl (List.mem_of_getElem? (i := 0) rfl)) all0)).trans K3 (allS (Or.inl (List.mem_of_getElem? (i := 1) rfl)) all0)).wr W4 (Or.inl (List.mem_of_getElem? (i := 1) rfl))).wr W5 (Or.inl (List.mem_of_getElem? (i := 1) rfl))), (((G2_0.keep K3).wr W4).wr W5), ((G3_0.wr W4).wr W5), (Fw4.other W5 (Or.inr (slot_ne (Or.inl (hw _ (List.mem_of_getElem? (i := 109) rfl))) (Or.inl (hw _ (List.mem_of_getElem? (i := 27) rfl))) (by decide) (t := (.object "com/example/carmine/carmine/Node")) (t' := (.object "com/example/carmine/carmine/Node")) (by decide) (by decide)))), Fw5⟩
theorem d13_71 : decode prog_9_method_3_code 71 = .ok (.iconst 1, 1) := by decide +kernel
theorem d13_72 : decode prog_9_method_3_code 72 = .ok (.goto 4, 3) := by decide +kernel
theorem d13_103 : decode prog_9_method_3_code 103 = .ok (.aload_n 0, 1) := by decide +kernel
theorem d13_104 : decode prog_9_method_3_code 104 = .ok (.invokevirtual 54, 3) := by decide +kernel
theorem d13_107 : decode prog_9_method_3_code 107 = .ok (.goto 4, 3) := by decide +kernel
theorem d13_119 : decode prog_9_method_3_code 119 = .ok (.aload 5, 2) := by decide +kernel
theorem d13_121 : decode prog_9_method_3_code 121 = .ok (.ifnull 7, 3) := by decide +kernel
theorem d13_134 : decode prog_9_method_3_code 134 = .ok (.aload 6, 2) := by decide +kernel
theorem d13_136 : decode prog_9_method_3_code 136 = .ok (.ifnull 7, 3) := by decide +kernel
theorem d13_139 : decode prog_9_method_3_code 139 = .ok (.iconst 1, 1) := by decide +kernel
theorem d13_140 : decode prog_9_method_3_code 140 = .ok (.goto 4, 3) := by decide +kernel
theorem pn_13_2 : plainName "com/example/carmine/carmine/RedBlack$Chain" = true := by first | (simp [plainName, overriddenIn]; done) | decide +kernel
theorem pd13_2_0 : parseMethodDescriptor "()Lcom/example/carmine/carmine/Node;" = some ⟨[], some (.object "com/example/carmine/carmine/Node")⟩ := by decide +kernel
theorem pd13_2_1 : parseMethodDescriptor "(ZZI)V" = some ⟨[.boolean, .boolean, .int], none⟩ := by decide +kernel
theorem ef_13_2 (m : MethodId) (c1 : Addr) : entryFrame m #[(.ref c1), (.int (2 : Int32)), (.int (0 : Int32))] 7 = mkF m 0 #[.val (.ref c1), .val (.int (2 : Int32)), .val (.int (0 : Int32)), .unset, .unset, .unset, .unset] [] := by first | (simp [entryFrame, mkF, argsToLocals, Value.category]; done) | rfl
def Q13_2 (Z : State) (c1 : Addr) (a1 : Addr) (a2 : Addr) (u : Value) (xl0 : Value) (f0 : Int32) (xl1 : Value) (f1 : Int32) (h0 : Heap) (n0 : Nat) (v : Option Value) (h : Heap) (L : List Loc) : Prop := v = some (.ref a1) ∧ Fr n0 L ∧ Keep h0 h [c1, a1, a2] ∧ Exa Z h c1 "com/example/carmine/carmine/RedBlack$Chain" ∧ Exa Z h a1 "com/example/carmine/carmine/Node" ∧ Fld Z h a1 "com/example/carmine/carmine/Node" "left" "Lcom/example/carmine/carmine/Node;" .null ∧ Fld Z h a1 "com/example/carmine/carmine/Node" "right" "Lcom/example/carmine/carmine/Node;" (.ref a2)
set_option maxRecDepth 65536 in
set_option maxHeartbeats 40000000 in
theorem rm13_2 (l : Launch) (Z : State) (a0 : Array Value) (hw : ∀ d ∈ tables_1, d.before a0 Z = true) (ws : List Jvm.Cond) (c1 : Addr) (a1 : Addr) (a2 : Addr) (u : Value) (xl0 : Value) (f0 : Int32) (xl1 : Value) (f1 : Int32) (h0 : Heap) (n0 : Nat) (Z0 : n0 ≤ h0.size) (F_row_c1 : Fld Z h0 c1 "com/example/carmine/carmine/RedBlack$Chain" "row" "Lcom/example/carmine/carmine/RedBlack$Row;" .null) (F_items_c1 : Fld Z h0 c1 "com/example/carmine/carmine/RedBlack$Chain" "items" "Ljava/util/Iterator;" .null) (F_redDepth_c1 : Fld Z h0 c1 "com/example/carmine/carmine/RedBlack$Chain" "redDepth" "I" (.int (1 : Int32))) (F_next_c1 : Fld Z h0 c1 "com/example/carmine/carmine/RedBlack$Chain" "next" "Lcom/example/carmine/carmine/Node;" (.ref a1)) (E_c1 : Exa Z h0 c1 "com/example/carmine/carmine/RedBlack$Chain") (g_c1 : n0 ≤ c1) (F_left_a1 : Fld Z h0 a1 "com/example/carmine/carmine/Node" "left" "Lcom/example/carmine/carmine/Node;" xl0) (F_sizeAndColours_a1 : Fld Z h0 a1 "com/example/carmine/carmine/Node" "sizeAndColours" "I" (.int f0)) (F_right_a1 : Fld Z h0 a1 "com/example/carmine/carmine/Node" "right" "Lcom/example/carmine/carmine/Node;" (.ref a2)) (E_a1 : Exa Z h0 a1 "com/example/carmine/carmine/Node") (g_a1 : n0 ≤ a1) (nc0 : a1 ≠ c1) (F_left_a2 : Fld Z h0 a2 "com/example/carmine/carmine/Node" "left" "Lcom/example/carmine/carmine/Node;" xl1) (F_sizeAndColours_a2 : Fld Z h0 a2 "com/example/carmine/carmine/Node" "sizeAndColours" "I" (.int f1)) (F_right_a2 : Fld Z h0 a2 "com/example/carmine/carmine/Node" "right" "Lcom/example/carmine/carmine/Node;" u) (E_a2 : Exa Z h0 a2 "com/example/carmine/carmine/Node") (g_a2 : n0 ≤ a2) (nc1 : a2 ≠ c1) (hu : u.isRef = true) (n01 : a1 ≠ a2) :
    MetFree l (⟨"com/example/carmine/carmine/RedBlack$Chain", "subtree", "(II)Lcom/example/carmine/carmine/Node;"⟩ : MethodName) (head1 (Jvm.Cond.code (⟨"com/example/carmine/carmine/RedBlack$Chain", "subtree", "(II)Lcom/example/carmine/carmine/Node;"⟩ : MethodName) prog_9_method_3_code 7 (some (.object "com/example/carmine/carmine/Node")) :: ws) ({ frames := 2, cells := 0, slots := 0, locals := 28 } : Room)) (fun a U => a = #[(.ref c1), (.int (2 : Int32)), (.int (0 : Int32))] ∧ Z.Warmed39 U.vm ∧ U.heap = h0) (fun _ _ _ _ _ => True) (fun _ U o U' => ∃ v L, o = .returned v ∧ Q13_2 Z c1 a1 a2 u xl0 f0 xl1 f1 h0 n0 v U'.heap L ∧ FrameEnd U o U' L ({ frames := 2, cells := 0, slots := 0, locals := 28 } : Room).cells ({ frames := 2, cells := 0, slots := 0, locals := 28 } : Room).slots) := by
  refine MetFree.of_bodySF (plainFor_of_name pn_13_2) hisR ?_
  intro p e s m args below meth c s₁ Bd hml0 hP hK
  obtain ⟨rfl, hZ, hh⟩ := hP
  have hx := Bd.exec
  have hby := Bd.bytes
  have hml : c.maxLocals = 7 := hml0
  have hown : s.vm.findClass "com/example/carmine/carmine/RedBlack$Chain" = some m.cls := findClass_of_methodNamed Bd.named
  have hnm := (name_of_methodNamed Bd.named Bd.method).1
  have X0 : Stand p l e ({ frames := 2, cells := 0, slots := 0, locals := 28 } : Room) s m #[(.ref c1), (.int (2 : Int32)), (.int (0 : Int32))] below meth c s₁ [] 0 0 := Stand.of_body Bd
  have e0 : s₁.heap = h0 := by rw [← hh, Bd.state]; rfl
  have N0 := Fr.nil n0
  refine goB (ef_13_2 m c1) ?_
  show Go p.tables e below s₁ (mkF m 0 #[.val (.ref c1), .val (.int (2 : Int32)), .val (.int (0 : Int32)), .unset, .unset, .unset, .unset] []) _
  refine go1 (fun _ => XS.iloadN X0.here hx rfl (hb hby d13_0) rfl) ?_
  show Go p.tables e below s₁ (mkF m 1 #[.val (.ref c1), .val (.int (2 : Int32)), .val (.int (0 : Int32)), .unset, .unset, .unset, .unset] [(.int (2 : Int32))]) _
  refine go1 (fun _ => XS.iconst X0.here hx rfl (hb hby d13_1)) ?_
  show Go p.tables e below s₁ (mkF m 2 #[.val (.ref c1), .val (.int (2 : Int32)), .val (.int (0 : Int32)), .unset, .unset, .unset, .unset] [(.int (3 : Int32)), (.int (2 : Int32))]) _
  refine go1 (fun _ => XS.icmpYes X0.here hx rfl (pc0 := 2) (pc' := 61) rfl (hb hby d13_2) rfl (flt (by decide : ¬ ((3 : Int32) < (2 : Int32)))).2.2.2 (by decide) (by decide)) ?_
  show Go p.tables e below s₁ (mkF m 61 #[.val (.ref c1), .val (.int (2 : Int32)), .val (.int (0 : Int32)), .unset, .unset, .unset, .unset] []) _
  refine go1 (fun _ => XS.iloadN X0.here hx rfl (hb hby d13_61) rfl) ?_
  show Go p.tables e below s₁ (mkF m 62 #[.val (.ref c1), .val (.int (2 : Int32)), .val (.int (0 : Int32)), .unset, .unset, .unset, .unset] [(.int (0 : Int32))]) _
  refine go1 (fun _ => XS.iconst X0.here hx rfl (hb hby d13_62)) ?_
  show Go p.tables e below s₁ (mkF m 63 #[.val (.ref c1), .val (.int (2 : Int32)), .val (.int (0 : Int32)), .unset, .unset, .unset, .unset] [(.int (1 : Int32)), (.int (0 : Int32))]) _
  refine go1 (fun _ => XS.iadd X0.here hx rfl (hb hby d13_63) rfl) ?_
  show Go p.tables e below s₁ (mkF m 64 #[.val (.ref c1), .val (.int (2 : Int32)), .val (.int (0 : Int32)), .unset, .unset, .unset, .unset] [(.int (1 : Int32))]) _
  refine go1 (fun _ => XS.aloadN X0.here hx rfl (hb hby d13_64) rfl rfl) ?_
  show Go p.tables e below s₁ (mkF m 65 #[.val (.ref c1), .val (.int (2 : Int32)), .val (.int (0 : Int32)), .unset, .unset, .unset, .unset] [(.ref c1), (.int (1 : Int32))]) _
  obtain ⟨T1, X1, e1, st1⟩ := getF X0 hx hZ hown (host := "") (Or.inl (hw _ (List.mem_of_getElem? (i := 79) rfl))) Via.refl e0 F_redDepth_c1 (g := (mkF m 65 #[.val (.ref c1), .val (.int (2 : Int32)), .val (.int (0 : Int32)), .unset, .unset, .unset, .unset] [(.ref c1), (.int (1 : Int32))])) rfl rfl (hb hby d13_65)
  refine go1 st1 ?_
  show Go p.tables e below T1 (mkF m 68 #[.val (.ref c1), .val (.int (2 : Int32)), .val (.int (0 : Int32)), .unset, .unset, .unset, .unset] [(.int (1 : Int32)), (.int (1 : Int32))]) _
  refine go1 (fun _ => XS.icmpNo X1.here hx rfl (hb hby d13_68) rfl (teq (by decide : (1 : Int32) = (1 : Int32))).2) ?_
  show Go p.tables e below T1 (mkF m 71 #[.val (.ref c1), .val (.int (2 : Int32)), .val (.int (0 : Int32)), .unset, .unset, .unset, .unset] []) _
  refine go1 (fun _ => XS.iconst X1.here hx rfl (hb hby d13_71)) ?_
  show Go p.tables e below T1 (mkF m 72 #[.val (.ref c1), .val (.int (2 : Int32)), .val (.int (0 : Int32)), .unset, .unset, .unset, .unset] [(.int (1 : Int32))]) _
  refine go1 (fun _ => XS.goto X1.here hx rfl (pc0 := 72) (pc' := 76) rfl (hb hby d13_72) (by decide) (by decide)) ?_
  show Go p.tables e below T1 (mkF m 76 #[.val (.ref c1), .val (.int (2 : Int32)), .val (.int (0 : Int32)), .unset, .unset, .unset, .unset] [(.int (1 : Int32))]) _
  refine go1 (fun _ => XS.istore X1.here hx rfl (hb hby d13_76) rfl (l' := #[.val (.ref c1), .val (.int (2 : Int32)), .val (.int (0 : Int32)), .unset, .val (.int (1 : Int32)), .unset, .unset]) rfl) ?_
  show Go p.tables e below T1 (mkF m 78 #[.val (.ref c1), .val (.int (2 : Int32)), .val (.int (0 : Int32)), .unset, .val (.int (1 : Int32)), .unset, .unset] []) _
  refine go1 (fun _ => XS.iloadN X1.here hx rfl (hb hby d13_78) rfl) ?_
  show Go p.tables e below T1 (mkF m 79 #[.val (.ref c1), .val (.int (2 : Int32)), .val (.int (0 : Int32)), .unset, .val (.int (1 : Int32)), .unset, .unset] [(.int (2 : Int32))]) _
  refine go1 (fun _ => XS.iconst X1.here hx rfl (hb hby d13_79)) ?_
  show Go p.tables e below T1 (mkF m 80 #[.val (.ref c1), .val (.int (2 : Int32)), .val (.int (0 : Int32)), .unset, .val (.int (1 : Int32)), .unset, .unset] [(.int (3 : Int32)), (.int (2 : Int32))]) _
  refine go1 (fun _ => XS.icmpYes X1.here hx rfl (pc0 := 80) (pc' := 90) rfl (hb hby d13_80) rfl (feq (by decide : ¬ ((2 : Int32) = (3 : Int32)))).2 (by decide) (by decide)) ?_
  show Go p.tables e below T1 (mkF m 90 #[.val (.ref c1), .val (.int (2 : Int32)), .val (.int (0 : Int32)), .unset, .val (.int (1 : Int32)), .unset, .unset] []) _
  refine go1 (fun _ => XS.aconstNull X1.here hx rfl (hb hby d13_90)) ?_
  show Go p.tables e below T1 (mkF m 91 #[.val (.ref c1), .val (.int (2 : Int32)), .val (.int (0 : Int32)), .unset, .val (.int (1 : Int32)), .unset, .unset] [.null]) _
  refine go1 (fun _ => XS.astore X1.here hx rfl (hb hby d13_91) rfl rfl (l' := #[.val (.ref c1), .val (.int (2 : Int32)), .val (.int (0 : Int32)), .unset, .val (.int (1 : Int32)), .val .null, .unset]) rfl) ?_
  show Go p.tables e below T1 (mkF m 93 #[.val (.ref c1), .val (.int (2 : Int32)), .val (.int (0 : Int32)), .unset, .val (.int (1 : Int32)), .val .null, .unset] []) _
  refine go1 (fun _ => XS.aloadN X1.here hx rfl (hb hby d13_93) rfl rfl) ?_
  show Go p.tables e below T1 (mkF m 94 #[.val (.ref c1), .val (.int (2 : Int32)), .val (.int (0 : Int32)), .unset, .val (.int (1 : Int32)), .val .null, .unset] [(.ref c1)]) _
  obtain ⟨cq2, q2, q2'⟩ := E_c1.cell
  obtain ⟨_, _, ⟨T2, L2, k2, n2⟩, -, X2, ⟨Lc2, hQ2, l2, y2, z2⟩, st2⟩ := X1.privateBack hx (y := (⟨"com/example/carmine/carmine/RedBlack$Chain", "next", "()Lcom/example/carmine/carmine/Node;"⟩ : MethodName)) hown (mvT hZ (hw _ (List.mem_of_getElem? (i := 94) rfl))) (mvT hZ (hw _ (List.mem_of_getElem? (i := 95) rfl))) (selPriv hZ (hw _ (List.mem_of_getElem? (i := 54) rfl)) (hw _ (List.mem_of_getElem? (i := 96) rfl)) (hw _ (List.mem_of_getElem? (i := 95) rfl)) (by decide)) (Cond.privateMethod_at (mvP hZ (hw _ (List.mem_of_getElem? (i := 96) rfl)) (args := #[]))) (mvT hZ (hw _ (List.mem_of_getElem? (i := 97) rfl))) (by decide) (backOf (W := 0) (rm14 l Z a0 hw [] c1 a1 (.ref a2) (1 : Int32) h0 n0 Z0 F_row_c1 F_items_c1 F_redDepth_c1 F_next_c1 F_right_a1 (by first | assumption | decide | rfl) nc0 E_c1 g_c1) hZ (hw _ (List.mem_of_getElem? (i := 97) rfl)) (hw _ (List.mem_of_getElem? (i := 55) rfl)) (by decide) (by decide)) (g := (mkF m 94 #[.val (.ref c1), .val (.int (2 : Int32)), .val (.int (0 : Int32)), .unset, .val (.int (1 : Int32)), .val .null, .unset] [(.ref c1)])) rfl (by rw [hml]; rfl) (Steps.refl _) (a := c1) (by rw [e1]; exact q2) q2' (argsL := []) (rest := []) (lenOf pd13_2_0 rfl) rfl (by show 2 * 0 + _ ≤ _; exact Nat.le_of_eq rfl) (hb hby d13_94) (fun _ _ => ⟨rfl, e1, (by decide : 0 + 0 ≤ _), (by decide : 0 + 0 ≤ _)⟩)
  dsimp only [Pt.U, Pt.locs, Pt.cells, Pt.slots] at X2 l2 y2 z2 st2 hQ2
  subst l2 y2 z2
  obtain ⟨rfl, N2q, K2, G2_0, G2_1, G2_2, G2_3, G2_4⟩ := hQ2
  have N2 := Fr.app N0 N2q
  refine goT st2 ?_
  show Go p.tables e below T2 (mkF m 97 #[.val (.ref c1), .val (.int (2 : Int32)), .val (.int (0 : Int32)), .unset, .val (.int (1 : Int32)), .val .null, .unset] [(.ref a1)]) _
  refine go1 (fun _ => XS.astoreN X2.here hx rfl (hb hby d13_97) rfl rfl (l' := #[.val (.ref c1), .val (.int (2 : Int32)), .val (.int (0 : Int32)), .val (.ref a1), .val (.int (1 : Int32)), .val .null, .unset]) rfl) ?_
  show Go p.tables e below T2 (mkF m 98 #[.val (.ref c1), .val (.int (2 : Int32)), .val (.int (0 : Int32)), .val (.ref a1), .val (.int (1 : Int32)), .val .null, .unset] []) _
  refine go1 (fun _ => XS.iloadN X2.here hx rfl (hb hby d13_98) rfl) ?_
  show Go p.tables e below T2 (mkF m 99 #[.val (.ref c1), .val (.int (2 : Int32)), .val (.int (0 : Int32)), .val (.ref a1), .val (.int (1 : Int32)), .val .null, .unset] [(.int (2 : Int32))]) _
  refine go1 (fun _ => XS.iconst X2.here hx rfl (hb hby d13_99)) ?_
  show Go p.tables e below T2 (mkF m 100 #[.val (.ref c1), .val (.int (2 : Int32)), .val (.int (0 : Int32)), .val (.ref a1), .val (.int (1 : Int32)), .val .null, .unset] [(.int (1 : Int32)), (.int (2 : Int32))]) _
  refine go1 (fun _ => XS.icmpNo X2.here hx rfl (hb hby d13_100) rfl (tlt (by decide : (1 : Int32) < (2 : Int32))).2.2.2) ?_
  show Go p.tables e below T2 (mkF m 103 #[.val (.ref c1), .val (.int (2 : Int32)), .val (.int (0 : Int32)), .val (.ref a1), .val (.int (1 : Int32)), .val .null, .unset] []) _
  refine go1 (fun _ => XS.aloadN X2.here hx rfl (hb hby d13_103) rfl rfl) ?_
  show Go p.tables e below T2 (mkF m 104 #[.val (.ref c1), .val (.int (2 : Int32)), .val (.int (0 : Int32)), .val (.ref a1), .val (.int (1 : Int32)), .val .null, .unset] [(.ref c1)]) _
  obtain ⟨cq3, q3, q3'⟩ := G2_0.cell
  obtain ⟨_, _, ⟨T3, L3, k3, n3⟩, -, X3, ⟨Lc3, hQ3, l3, y3, z3⟩, st3⟩ := X2.privateBack hx (y := (⟨"com/example/carmine/carmine/RedBlack$Chain", "leaf", "()Lcom/example/carmine/carmine/Node;"⟩ : MethodName)) hown (mvT hZ (hw _ (List.mem_of_getElem? (i := 99) rfl))) (mvT hZ (hw _ (List.mem_of_getElem? (i := 100) rfl))) (selPriv hZ (hw _ (List.mem_of_getElem? (i := 54) rfl)) (hw _ (List.mem_of_getElem? (i := 101) rfl)) (hw _ (List.mem_of_getElem? (i := 100) rfl)) (by decide)) (Cond.privateMethod_at (mvP hZ (hw _ (List.mem_of_getElem? (i := 101) rfl)) (args := #[]))) (mvT hZ (hw _ (List.mem_of_getElem? (i := 102) rfl))) (by decide) (backOf (W := 0) (rm15 l Z a0 hw [] c1 a2 u (1 : Int32) xl1 f1 T2.heap n0 (Nat.le_trans Z0 K2.1) G2_1 G2_2 G2_3 G2_4 (F_left_a2.keep K2 (ninS nc1 nin0)) (F_sizeAndColours_a2.keep K2 (ninS nc1 nin0)) (F_right_a2.keep K2 (ninS nc1 nin0)) hu nc1 G2_0 g_c1 (E_a2.keep K2) g_a2) hZ (hw _ (List.mem_of_getElem? (i := 102) rfl)) (hw _ (List.mem_of_getElem? (i := 55) rfl)) (by decide) (by decide)) (g := (mkF m 104 #[.val (.ref c1), .val (.int (2 : Int32)), .val (.int (0 : Int32)), .val (.ref a1), .val (.int (1 : Int32)), .val .null, .unset] [(.ref c1)])) rfl (by rw [hml]; rfl) (Steps.refl _) (a := c1) q3 q3' (argsL := []) (rest := []) (lenOf pd13_2_0 rfl) rfl (by show 2 * 0 + _ ≤ _; exact Nat.le_of_eq rfl) (hb hby d13_104) (fun _ _ => ⟨rfl, rfl, (by decide : 0 + 0 ≤ _), (by decide : 0 + 0 ≤ _)⟩)
  dsimp only [Pt.U, Pt.locs, Pt.cells, Pt.slots] at X3 l3 y3 z3 st3 hQ3
  subst l3 y3 z3
  obtain ⟨rfl, N3q, K3, G3_0, G3_1, G3_2, G3_3, G3_4, G3_5, G3_6, G3_7, G3_8⟩ := hQ3
  have N3 := Fr.app N2 N3q
  refine goT st3 ?_
  show Go p.tables e below T3 (mkF m 107 #[.val (.ref c1), .val (.int (2 : Int32)), .val (.int (0 : Int32)), .val (.ref a1), .val (.int (1 : Int32)), .val .null, .unset] [(.ref a2)]) _
  refine go1 (fun _ => XS.goto X3.here hx rfl (pc0 := 107) (pc' := 111) rfl (hb hby d13_107) (by decide) (by decide)) ?_
  show Go p.tables e below T3 (mkF m 111 #[.val (.ref c1), .val (.int (2 : Int32)), .val (.int (0 : Int32)), .val (.ref a1), .val (.int (1 : Int32)), .val .null, .unset] [(.ref a2)]) _
  refine go1 (fun _ => XS.astore X3.here hx rfl (hb hby d13_111) rfl rfl (l' := #[.val (.ref c1), .val (.int (2 : Int32)), .val (.int (0 : Int32)), .val (.ref a1), .val (.int (1 : Int32)), .val .null, .val (.ref a2)]) rfl) ?_
  show Go p.tables e below T3 (mkF m 113 #[.val (.ref c1), .val (.int (2 : Int32)), .val (.int (0 : Int32)), .val (.ref a1), .val (.int (1 : Int32)), .val .null, .val (.ref a2)] []) _
  refine go1 (fun _ => XS.aloadN X3.here hx rfl (hb hby d13_113) rfl rfl) ?_
  show Go p.tables e below T3 (mkF m 114 #[.val (.ref c1), .val (.int (2 : Int32)), .val (.int (0 : Int32)), .val (.ref a1), .val (.int (1 : Int32)), .val .null, .val (.ref a2)] [(.ref a1)]) _
  refine go1 (fun _ => XS.iload X3.here hx rfl (hb hby d13_114) rfl) ?_
  show Go p.tables e below T3 (mkF m 116 #[.val (.ref c1), .val (.int (2 : Int32)), .val (.int (0 : Int32)), .val (.ref a1), .val (.int (1 : Int32)), .val .null, .val (.ref a2)] [(.int (1 : Int32)), (.ref a1)]) _
  refine go1 (fun _ => XS.ifNo X3.here hx rfl (hb hby d13_116) rfl ((if0 _ _).trans (feq (by decide : ¬ ((1 : Int32) = (0 : Int32)))).1)) ?_
  show Go p.tables e below T3 (mkF m 119 #[.val (.ref c1), .val (.int (2 : Int32)), .val (.int (0 : Int32)), .val (.ref a1), .val (.int (1 : Int32)), .val .null, .val (.ref a2)] [(.ref a1)]) _
  refine go1 (fun _ => XS.aload X3.here hx rfl (hb hby d13_119) rfl rfl) ?_
  show Go p.tables e below T3 (mkF m 121 #[.val (.ref c1), .val (.int (2 : Int32)), .val (.int (0 : Int32)), .val (.ref a1), .val (.int (1 : Int32)), .val .null, .val (.ref a2)] [.null, (.ref a1)]) _
  refine go1 (fun _ => XS.ifnullYes X3.here hx rfl (pc0 := 121) (pc' := 128) rfl (hb hby d13_121) rfl (by decide) (by decide)) ?_
  show Go p.tables e below T3 (mkF m 128 #[.val (.ref c1), .val (.int (2 : Int32)), .val (.int (0 : Int32)), .val (.ref a1), .val (.int (1 : Int32)), .val .null, .val (.ref a2)] [(.ref a1)]) _
  refine go1 (fun _ => XS.iconst X3.here hx rfl (hb hby d13_128)) ?_
  show Go p.tables e below T3 (mkF m 129 #[.val (.ref c1), .val (.int (2 : Int32)), .val (.int (0 : Int32)), .val (.ref a1), .val (.int (1 : Int32)), .val .null, .val (.ref a2)] [(.int (0 : Int32)), (.ref a1)]) _
  refine go1 (fun _ => XS.iload X3.here hx rfl (hb hby d13_129) rfl) ?_
  show Go p.tables e below T3 (mkF m 131 #[.val (.ref c1), .val (.int (2 : Int32)), .val (.int (0 : Int32)), .val (.ref a1), .val (.int (1 : Int32)), .val .null, .val (.ref a2)] [(.int (1 : Int32)), (.int (0 : Int32)), (.ref a1)]) _
  refine go1 (fun _ => XS.ifNo X3.here hx rfl (hb hby d13_131) rfl ((if0 _ _).trans (feq (by decide : ¬ ((1 : Int32) = (0 : Int32)))).1)) ?_
  show Go p.tables e below T3 (mkF m 134 #[.val (.ref c1), .val (.int (2 : Int32)), .val (.int (0 : Int32)), .val (.ref a1), .val (.int (1 : Int32)), .val .null, .val (.ref a2)] [(.int (0 : Int32)), (.ref a1)]) _
  refine go1 (fun _ => XS.aload X3.here hx rfl (hb hby d13_134) rfl rfl) ?_
  show Go p.tables e below T3 (mkF m 136 #[.val (.ref c1), .val (.int (2 : Int32)), .val (.int (0 : Int32)), .val (.ref a1), .val (.int (1 : Int32)), .val .null, .val (.ref a2)] [(.ref a2), (.int (0 : Int32)), (.ref a1)]) _
  refine go1 (fun _ => XS.ifnullNo X3.here hx rfl (hb hby d13_136) rfl) ?_
  show Go p.tables e below T3 (mkF m 139 #[.val (.ref c1), .val (.int (2 : Int32)), .val (.int (0 : Int32)), .val (.ref a1), .val (.int (1 : Int32)), .val .null, .val (.ref a2)] [(.int (0 : Int32)), (.ref a1)]) _
  refine go1 (fun _ => XS.iconst X3.here hx rfl (hb hby d13_139)) ?_
  show Go p.tables e below T3 (mkF m 140 #[.val (.ref c1), .val (.int (2 : Int32)), .val (.int (0 : Int32)), .val (.ref a1), .val (.int (1 : Int32)), .val .null, .val (.ref a2)] [(.int (1 : Int32)), (.int (0 : Int32)), (.ref a1)]) _
  refine go1 (fun _ => XS.goto X3.here hx rfl (pc0 := 140) (pc' := 144) rfl (hb hby d13_140) (by decide) (by decide)) ?_
  show Go p.tables e below T3 (mkF m 144 #[.val (.ref c1), .val (.int (2 : Int32)), .val (.int (0 : Int32)), .val (.ref a1), .val (.int (1 : Int32)), .val .null, .val (.ref a2)] [(.int (1 : Int32)), (.int (0 : Int32)), (.ref a1)]) _
  refine go1 (fun _ => XS.iloadN X3.here hx rfl (hb hby d13_144) rfl) ?_
  show Go p.tables e below T3 (mkF m 145 #[.val (.ref c1), .val (.int (2 : Int32)), .val (.int (0 : Int32)), .val (.ref a1), .val (.int (1 : Int32)), .val .null, .val (.ref a2)] [(.int (2 : Int32)), (.int (1 : Int32)), (.int (0 : Int32)), (.ref a1)]) _
  obtain ⟨cq4, kq4, q4a, q4b, q4c⟩ := isOf hZ rfl ((E_a1.keep K2).keep K3)
  obtain ⟨_, _, ⟨T4, L4, k4, n4⟩, -, X4, ⟨Lc4, hQ4, l4, y4, z4⟩, st4⟩ := X3.virtualBack hx (y := (⟨"com/example/carmine/carmine/Node", "setColoursAndSize", "(ZZI)V"⟩ : MethodName)) (z := (⟨"com/example/carmine/carmine/Node", "setColoursAndSize", "(ZZI)V"⟩ : MethodName)) hown (mvT hZ (hw _ (List.mem_of_getElem? (i := 103) rfl))) (mvT hZ (hw _ (List.mem_of_getElem? (i := 104) rfl))) (notFace_of_selects (args := #[]) (mvT hZ (hw _ (List.mem_of_getElem? (i := 106) rfl)))) (mvT hZ (hw _ (List.mem_of_getElem? (i := 106) rfl))) (mvT hZ (hw _ (List.mem_of_getElem? (i := 105) rfl))) (by decide) (backOf (W := 0) (rm16 l Z a0 hw [] a1 (0 : Int32) (1 : Int32) (2 : Int32) f0 xl0 (.ref a2) T3.heap n0 (Nat.le_trans (Nat.le_trans Z0 K2.1) K3.1) ((F_left_a1.keep K2 (ninS nc0 nin0)).keep K3 (ninS nc0 (ninS n01 nin0))) ((F_sizeAndColours_a1.keep K2 (ninS nc0 nin0)).keep K3 (ninS nc0 (ninS n01 nin0))) ((F_right_a1.keep K2 (ninS nc0 nin0)).keep K3 (ninS nc0 (ninS n01 nin0))) ((E_a1.keep K2).keep K3) g_a1) hZ (hw _ (List.mem_of_getElem? (i := 107) rfl)) (hw _ (List.mem_of_getElem? (i := 2) rfl)) (by decide) (by decide)) q4a q4c (g := (mkF m 145 #[.val (.ref c1), .val (.int (2 : Int32)), .val (.int (0 : Int32)), .val (.ref a1), .val (.int (1 : Int32)), .val .null, .val (.ref a2)] [(.int (2 : Int32)), (.int (1 : Int32)), (.int (0 : Int32)), (.ref a1)])) rfl (by rw [hml]; rfl) (Steps.refl _) (argsL := [(.int (0 : Int32)), (.int (1 : Int32)), (.int (2 : Int32))]) (rest := []) (lenOf pd13_2_1 rfl) rfl (by show 2 * 0 + _ ≤ _; exact Nat.le_of_eq rfl) (hb hby d13_145) (fun _ _ => ⟨rfl, rfl, (by decide : 0 + 0 ≤ _), (by decide : 0 + 0 ≤ _)⟩)
  dsimp only [Pt.U, Pt.locs, Pt.cells, Pt.slots] at X4 l4 y4 z4 st4 hQ4
  subst l4 y4 z4
  obtain ⟨rfl, N4q, K4, G4_0, G4_1, G4_2, G4_3⟩ := hQ4
  have N4 := Fr.app N3 N4q
  refine goT st4 ?_
  show Go p.tables e below T4 (mkF m 148 #[.val (.ref c1), .val (.int (2 : Int32)), .val (.int (0 : Int32)), .val (.ref a1), .val (.int (1 : Int32)), .val .null, .val (.ref a2)] []) _
  refine go1 (fun _ => XS.aloadN X4.here hx rfl (hb hby d13_148) rfl rfl) ?_
  show Go p.tables e below T4 (mkF m 149 #[.val (.ref c1), .val (.int (2 : Int32)), .val (.int (0 : Int32)), .val (.ref a1), .val (.int (1 : Int32)), .val .null, .val (.ref a2)] [(.ref a1)]) _
  refine go1 (fun _ => XS.aload X4.here hx rfl (hb hby d13_149) rfl rfl) ?_
  show Go p.tables e below T4 (mkF m 151 #[.val (.ref c1), .val (.int (2 : Int32)), .val (.int (0 : Int32)), .val (.ref a1), .val (.int (1 : Int32)), .val .null, .val (.ref a2)] [.null, (.ref a1)]) _
  obtain ⟨T5, h5, X5, e5, W5, st5⟩ := putF X4 hx hZ hown (host := "") (Or.inl (hw _ (List.mem_of_getElem? (i := 108) rfl))) Via.refl rfl G4_1 G4_0 (Or.inl (hw _ (List.mem_of_getElem? (i := 109) rfl))) (hw _ (List.mem_of_getElem? (i := 1) rfl)) (ty := (.object "com/example/carmine/carmine/Node")) (by decide) rfl rfl (g := (mkF m 151 #[.val (.ref c1), .val (.int (2 : Int32)), .val (.int (0 : Int32)), .val (.ref a1), .val (.int (1 : Int32)), .val .null, .val (.ref a2)] [.null, (.ref a1)])) rfl rfl (hb hby d13_151)
  refine go1 st5 ?_
  have Fw5 := G4_1.same W5
  have N5 := Fr.snoc X5 N4 g_a1
  show Go p.tables e below T5 (mkF m 154 #[.val (.ref c1), .val (.int (2 : Int32)), .val (.int (0 : Int32)), .val (.ref a1), .val (.int (1 : Int32)), .val .null, .val (.ref a2)] []) _
  refine go1 (fun _ => XS.aloadN X5.here hx rfl (hb hby d13_154) rfl rfl) ?_
  show Go p.tables e below T5 (mkF m 155 #[.val (.ref c1), .val (.int (2 : Int32)), .val (.int (0 : Int32)), .val (.ref a1), .val (.int (1 : Int32)), .val .null, .val (.ref a2)] [(.ref a1)]) _
  refine go1 (fun _ => XS.aload X5.here hx rfl (hb hby d13_155) rfl rfl) ?_
  show Go p.tables e below T5 (mkF m 157 #[.val (.ref c1), .val (.int (2 : Int32)), .val (.int (0 : Int32)), .val (.ref a1), .val (.int (1 : Int32)), .val .null, .val (.ref a2)] [(.ref a2), (.ref a1)]) _
  obtain ⟨T6, h6, X6, e6, W6, st6⟩ := putF X5 hx hZ hown (host := "") (Or.inl (hw _ (List.mem_of_getElem? (i := 98) rfl))) Via.refl e5 (G4_3.other W5 (Or.inr (slot_ne (Or.inl (hw _ (List.mem_of_getElem? (i := 27) rfl))) (Or.inl (hw _ (List.mem_of_getElem? (i := 109) rfl))) (by decide) (t := (.object "com/example/carmine/carmine/Node")) (t' := (.object "com/example/carmine/carmine/Node")) (by decide) (by decide)))) (G4_0.wr W5) (Or.inl (hw _ (List.mem_of_getElem? (i := 27) rfl))) (hw _ (List.mem_of_getElem? (i := 1) rfl)) (ty := (.object "com/example/carmine/carmine/Node")) (by decide) rfl rfl (g := (mkF m 157 #[.val (.ref c1), .val (.int (2 : Int32)), .val (.int (0 : Int32)), .val (.ref a1), .val (.int (1 : Int32)), .val .null, .val (.ref a2)] [(.ref a2), (.ref a1)])) rfl rfl (hb hby d13_157)
  refine go1 st6 ?_
  have Fw6 := (G4_3.other W5 (Or.inr (slot_ne (Or.inl (hw _ (List.mem_of_getElem? (i := 27) rfl))) (Or.inl (hw _ (List.mem_of_getElem? (i := 109) rfl))) (by decide) (t := (.object "com/example/carmine/carmine/Node")) (t' := (.object "com/example/carmine/carmine/Node")) (by decide) (by decide)))).same W6
  have N6 := Fr.snoc X6 N5 g_a1
  show Go p.tables e below T6 (mkF m 160 #[.val (.ref c1), .val (.int (2 : Int32)), .val (.int (0 : Int32)), .val (.ref a1), .val (.int (1 : Int32)), .val .null, .val (.ref a2)] []) _
  refine go1 (fun _ => XS.aloadN X6.here hx rfl (hb hby d13_160) rfl rfl) ?_
  show Go p.tables e below T6 (mkF m 161 #[.val (.ref c1), .val (.int (2 : Int32)), .val (.int (0 : Int32)), .val (.ref a1), .val (.int (1 : Int32)), .val .null, .val (.ref a2)] [(.ref a1)]) _
  refine goR X6 (BodyLoose.notSynchronized Bd) (v := (some (.ref a1))) (fun h => by rw [Bd.returns] at h; cases h) (Q13_2 Z c1 a1 a2 u xl0 f0 xl1 f1 h0 n0) (fun fs hr => retOut X6 hx (t := (.object "com/example/carmine/carmine/Node")) (w := (.ref a1)) Bd.returns rfl (Or.inr (Or.inr (Or.inr (Or.inr ⟨rfl, rfl, rfl⟩)))) (hb hby d13_161) hr) (by decide) (by decide) ?_
  show Q13_2 Z c1 a1 a2 u xl0 f0 xl1 f1 h0 n0 _ T6.heap _
  rw [e6]
  exact ⟨rfl, N6, ((((((Keep.refl h0 [c1, a1, a2]).trans K2 (allS (Or.inl (List.mem_of_getElem? (i := 0) rfl)) all0)).trans K3 (allS (Or.inl (List.mem_of_getElem? (i := 0) rfl)) (allS (Or.inl (List.mem_of_getElem? (i := 2) rfl)) all0))).trans K4 (allS (Or.inl (List.mem_of_getElem? (i := 1) rfl)) all0)).wr W5 (Or.inl (List.mem_of_getElem? (i := 1) rfl))).wr W6 (Or.inl (List.mem_of_getElem? (i := 1) rfl))), (((G3_0.keep K4).wr W5).wr W6), ((G4_0.wr W5).wr W6), (Fw5.other W6 (Or.inr (slot_ne (Or.inl (hw _ (List.mem_of_getElem? (i := 109) rfl))) (Or.inl (hw _ (List.mem_of_getElem? (i := 27) rfl))) (by decide) (t := (.object "com/example/carmine/carmine/Node")) (t' := (.object "com/example/carmine/carmine/Node")) (by decide) (by decide)))), Fw6⟩
theorem d13_83 : decode prog_9_method_3_code 83 = .ok (.aload_n 0, 1) := by decide +kernel
theorem d13_84 : decode prog_9_method_3_code 84 = .ok (.invokevirtual 54, 3) := by decide +kernel
theorem d13_87 : decode prog_9_method_3_code 87 = .ok (.goto 4, 3) := by decide +kernel
theorem pn_13_3 : plainName "com/example/carmine/carmine/RedBlack$Chain" = true := by first | (simp [plainName, overriddenIn]; done) | decide +kernel
theorem pd13_3_0 : parseMethodDescriptor "()Lcom/example/carmine/carmine/Node;" = some ⟨[], some (.object "com/example/carmine/carmine/Node")⟩ := by decide +kernel
theorem pd13_3_1 : parseMethodDescriptor "(ZZI)V" = some ⟨[.boolean, .boolean, .int], none⟩ := by decide +kernel
theorem ef_13_3 (m : MethodId) (c1 : Addr) : entryFrame m #[(.ref c1), (.int (3 : Int32)), (.int (0 : Int32))] 7 = mkF m 0 #[.val (.ref c1), .val (.int (3 : Int32)), .val (.int (0 : Int32)), .unset, .unset, .unset, .unset] [] := by first | (simp [entryFrame, mkF, argsToLocals, Value.category]; done) | rfl
def Q13_3 (Z : State) (c1 : Addr) (a1 : Addr) (a2 : Addr) (a3 : Addr) (u : Value) (xl0 : Value) (f0 : Int32) (xl1 : Value) (f1 : Int32) (xl2 : Value) (f2 : Int32) (h0 : Heap) (n0 : Nat) (v : Option Value) (h : Heap) (L : List Loc) : Prop := v = some (.ref a2) ∧ Fr n0 L ∧ Keep h0 h [c1, a1, a2, a3] ∧ Exa Z h c1 "com/example/carmine/carmine/RedBlack$Chain" ∧ Exa Z h a2 "com/example/carmine/carmine/Node" ∧ Fld Z h a2 "com/example/carmine/carmine/Node" "left" "Lcom/example/carmine/carmine/Node;" (.ref a1) ∧ Fld Z h a2 "com/example/carmine/carmine/Node" "right" "Lcom/example/carmine/carmine/Node;" (.ref a3)
set_option maxRecDepth 65536 in
set_option maxHeartbeats 40000000 in
theorem rm13_3 (l : Launch) (Z : State) (a0 : Array Value) (hw : ∀ d ∈ tables_1, d.before a0 Z = true) (ws : List Jvm.Cond) (c1 : Addr) (a1 : Addr) (a2 : Addr) (a3 : Addr) (u : Value) (xl0 : Value) (f0 : Int32) (xl1 : Value) (f1 : Int32) (xl2 : Value) (f2 : Int32) (h0 : Heap) (n0 : Nat) (Z0 : n0 ≤ h0.size) (F_row_c1 : Fld Z h0 c1 "com/example/carmine/carmine/RedBlack$Chain" "row" "Lcom/example/carmine/carmine/RedBlack$Row;" .null) (F_items_c1 : Fld Z h0 c1 "com/example/carmine/carmine/RedBlack$Chain" "items" "Ljava/util/Iterator;" .null) (F_redDepth_c1 : Fld Z h0 c1 "com/example/carmine/carmine/RedBlack$Chain" "redDepth" "I" (.int (-1 : Int32))) (F_next_c1 : Fld Z h0 c1 "com/example/carmine/carmine/RedBlack$Chain" "next" "Lcom/example/carmine/carmine/Node;" (.ref a1)) (E_c1 : Exa Z h0 c1 "com/example/carmine/carmine/RedBlack$Chain") (g_c1 : n0 ≤ c1) (F_left_a1 : Fld Z h0 a1 "com/example/carmine/carmine/Node" "left" "Lcom/example/carmine/carmine/Node;" xl0) (F_sizeAndColours_a1 : Fld Z h0 a1 "com/example/carmine/carmine/Node" "sizeAndColours" "I" (.int f0)) (F_right_a1 : Fld Z h0 a1 "com/example/carmine/carmine/Node" "right" "Lcom/example/carmine/carmine/Node;" (.ref a2)) (E_a1 : Exa Z h0 a1 "com/example/carmine/carmine/Node") (g_a1 : n0 ≤ a1) (nc0 : a1 ≠ c1) (F_left_a2 : Fld Z h0 a2 "com/example/carmine/carmine/Node" "left" "Lcom/example/carmine/carmine/Node;" xl1) (F_sizeAndColours_a2 : Fld Z h0 a2 "com/example/carmine/carmine/Node" "sizeAndColours" "I" (.int f1)) (F_right_a2 : Fld Z h0 a2 "com/example/carmine/carmine/Node" "right" "Lcom/example/carmine/carmine/Node;" (.ref a3)) (E_a2 : Exa Z h0 a2 "com/example/carmine/carmine/Node") (g_a2 : n0 ≤ a2) (nc1 : a2 ≠ c1) (F_left_a3 : Fld Z h0 a3 "com/example/carmine/carmine/Node" "left" "Lcom/example/carmine/carmine/Node;" xl2) (F_sizeAndColours_a3 : Fld Z h0 a3 "com/example/carmine/carmine/Node" "sizeAndColours" "I" (.int f2)) (F_right_a3 : Fld Z h0 a3 "com/example/carmine/carmine/Node" "right" "Lcom/example/carmine/carmine/Node;" u) (E_a3 : Exa Z h0 a3 "com/example/carmine/carmine/Node") (g_a3 : n0 ≤ a3) (nc2 : a3 ≠ c1) (hu : u.isRef = true) (n01 : a1 ≠ a2) (n02 : a1 ≠ a3) (n12 : a2 ≠ a3) :
    MetFree l (⟨"com/example/carmine/carmine/RedBlack$Chain", "subtree", "(II)Lcom/example/carmine/carmine/Node;"⟩ : MethodName) (head1 (Jvm.Cond.code (⟨"com/example/carmine/carmine/RedBlack$Chain", "subtree", "(II)Lcom/example/carmine/carmine/Node;"⟩ : MethodName) prog_9_method_3_code 7 (some (.object "com/example/carmine/carmine/Node")) :: ws) ({ frames := 2, cells := 0, slots := 0, locals := 28 } : Room)) (fun a U => a = #[(.ref c1), (.int (3 : Int32)), (.int (0 : Int32))] ∧ Z.Warmed39 U.vm ∧ U.heap = h0) (fun _ _ _ _ _ => True) (fun _ U o U' => ∃ v L, o = .returned v ∧ Q13_3 Z c1 a1 a2 a3 u xl0 f0 xl1 f1 xl2 f2 h0 n0 v U'.heap L ∧ FrameEnd U o U' L ({ frames := 2, cells := 0, slots := 0, locals := 28 } : Room).cells ({ frames := 2, cells := 0, slots := 0, locals := 28 } : Room).slots) := by
  refine MetFree.of_bodySF (plainFor_of_name pn_13_3) hisR ?_
  intro p e s m args below meth c s₁ Bd hml0 hP hK
  obtain ⟨rfl, hZ, hh⟩ := hP
  have hx := Bd.exec
  have hby := Bd.bytes
  have hml : c.maxLocals = 7 := hml0
  have hown : s.vm.findClass "com/example/carmine/carmine/RedBlack$Chain" = some m.cls := findClass_of_methodNamed Bd.named
  have hnm := (name_of_methodNamed Bd.named Bd.method).1
  have X0 : Stand p l e ({ frames := 2, cells := 0, slots := 0, locals := 28 } : Room) s m #[(.ref c1), (.int (3 : Int32)), (.int (0 : Int32))] below meth c s₁ [] 0 0 := Stand.of_body Bd
  have e0 : s₁.heap = h0 := by rw [← hh, Bd.state]; rfl
  have N0 := Fr.nil n0
  refine goB (ef_13_3 m c1) ?_
  show Go p.tables e below s₁ (mkF m 0 #[.val (.ref c1), .val (.int (3 : Int32)), .val (.int (0 : Int32)), .unset, .unset, .unset, .unset] []) _
  refine go1 (fun _ => XS.iloadN X0.here hx rfl (hb hby d13_0) rfl) ?_
  show Go p.tables e below s₁ (mkF m 1 #[.val (.ref c1), .val (.int (3 : Int32)), .val (.int (0 : Int32)), .unset, .unset, .unset, .unset] [(.int (3 : Int32))]) _
  refine go1 (fun _ => XS.iconst X0.here hx rfl (hb hby d13_1)) ?_
  show Go p.tables e below s₁ (mkF m 2 #[.val (.ref c1), .val (.int (3 : Int32)), .val (.int (0 : Int32)), .unset, .unset, .unset, .unset] [(.int (3 : Int32)), (.int (3 : Int32))]) _
  refine go1 (fun _ => XS.icmpYes X0.here hx rfl (pc0 := 2) (pc' := 61) rfl (hb hby d13_2) rfl (flt (by decide : ¬ ((3 : Int32) < (3 : Int32)))).2.2.2 (by decide) (by decide)) ?_
  show Go p.tables e below s₁ (mkF m 61 #[.val (.ref c1), .val (.int (3 : Int32)), .val (.int (0 : Int32)), .unset, .unset, .unset, .unset] []) _
  refine go1 (fun _ => XS.iloadN X0.here hx rfl (hb hby d13_61) rfl) ?_
  show Go p.tables e below s₁ (mkF m 62 #[.val (.ref c1), .val (.int (3 : Int32)), .val (.int (0 : Int32)), .unset, .unset, .unset, .unset] [(.int (0 : Int32))]) _
  refine go1 (fun _ => XS.iconst X0.here hx rfl (hb hby d13_62)) ?_
  show Go p.tables e below s₁ (mkF m 63 #[.val (.ref c1), .val (.int (3 : Int32)), .val (.int (0 : Int32)), .unset, .unset, .unset, .unset] [(.int (1 : Int32)), (.int (0 : Int32))]) _
  refine go1 (fun _ => XS.iadd X0.here hx rfl (hb hby d13_63) rfl) ?_
  show Go p.tables e below s₁ (mkF m 64 #[.val (.ref c1), .val (.int (3 : Int32)), .val (.int (0 : Int32)), .unset, .unset, .unset, .unset] [(.int (1 : Int32))]) _
  refine go1 (fun _ => XS.aloadN X0.here hx rfl (hb hby d13_64) rfl rfl) ?_
  show Go p.tables e below s₁ (mkF m 65 #[.val (.ref c1), .val (.int (3 : Int32)), .val (.int (0 : Int32)), .unset, .unset, .unset, .unset] [(.ref c1), (.int (1 : Int32))]) _
  obtain ⟨T1, X1, e1, st1⟩ := getF X0 hx hZ hown (host := "") (Or.inl (hw _ (List.mem_of_getElem? (i := 79) rfl))) Via.refl e0 F_redDepth_c1 (g := (mkF m 65 #[.val (.ref c1), .val (.int (3 : Int32)), .val (.int (0 : Int32)), .unset, .unset, .unset, .unset] [(.ref c1), (.int (1 : Int32))])) rfl rfl (hb hby d13_65)
  refine go1 st1 ?_
  show Go p.tables e below T1 (mkF m 68 #[.val (.ref c1), .val (.int (3 : Int32)), .val (.int (0 : Int32)), .unset, .unset, .unset, .unset] [(.int (-1 : Int32)), (.int (1 : Int32))]) _
  refine go1 (fun _ => XS.icmpYes X1.here hx rfl (pc0 := 68) (pc' := 75) rfl (hb hby d13_68) rfl (feq (by decide : ¬ ((1 : Int32) = (-1 : Int32)))).2 (by decide) (by decide)) ?_
  show Go p.tables e below T1 (mkF m 75 #[.val (.ref c1), .val (.int (3 : Int32)), .val (.int (0 : Int32)), .unset, .unset, .unset, .unset] []) _
  refine go1 (fun _ => XS.iconst X1.here hx rfl (hb hby d13_75)) ?_
  show Go p.tables e below T1 (mkF m 76 #[.val (.ref c1), .val (.int (3 : Int32)), .val (.int (0 : Int32)), .unset, .unset, .unset, .unset] [(.int (0 : Int32))]) _
  refine go1 (fun _ => XS.istore X1.here hx rfl (hb hby d13_76) rfl (l' := #[.val (.ref c1), .val (.int (3 : Int32)), .val (.int (0 : Int32)), .unset, .val (.int (0 : Int32)), .unset, .unset]) rfl) ?_
  show Go p.tables e below T1 (mkF m 78 #[.val (.ref c1), .val (.int (3 : Int32)), .val (.int (0 : Int32)), .unset, .val (.int (0 : Int32)), .unset, .unset] []) _
  refine go1 (fun _ => XS.iloadN X1.here hx rfl (hb hby d13_78) rfl) ?_
  show Go p.tables e below T1 (mkF m 79 #[.val (.ref c1), .val (.int (3 : Int32)), .val (.int (0 : Int32)), .unset, .val (.int (0 : Int32)), .unset, .unset] [(.int (3 : Int32))]) _
  refine go1 (fun _ => XS.iconst X1.here hx rfl (hb hby d13_79)) ?_
  show Go p.tables e below T1 (mkF m 80 #[.val (.ref c1), .val (.int (3 : Int32)), .val (.int (0 : Int32)), .unset, .val (.int (0 : Int32)), .unset, .unset] [(.int (3 : Int32)), (.int (3 : Int32))]) _
  refine go1 (fun _ => XS.icmpNo X1.here hx rfl (hb hby d13_80) rfl (teq (by decide : (3 : Int32) = (3 : Int32))).2) ?_
  show Go p.tables e below T1 (mkF m 83 #[.val (.ref c1), .val (.int (3 : Int32)), .val (.int (0 : Int32)), .unset, .val (.int (0 : Int32)), .unset, .unset] []) _
  refine go1 (fun _ => XS.aloadN X1.here hx rfl (hb hby d13_83) rfl rfl) ?_
  show Go p.tables e below T1 (mkF m 84 #[.val (.ref c1), .val (.int (3 : Int32)), .val (.int (0 : Int32)), .unset, .val (.int (0 : Int32)), .unset, .unset] [(.ref c1)]) _
  obtain ⟨cq2, q2, q2'⟩ := E_c1.cell
  obtain ⟨_, _, ⟨T2, L2, k2, n2⟩, -, X2, ⟨Lc2, hQ2, l2, y2, z2⟩, st2⟩ := X1.privateBack hx (y := (⟨"com/example/carmine/carmine/RedBlack$Chain", "leaf", "()Lcom/example/carmine/carmine/Node;"⟩ : MethodName)) hown (mvT hZ (hw _ (List.mem_of_getElem? (i := 99) rfl))) (mvT hZ (hw _ (List.mem_of_getElem? (i := 100) rfl))) (selPriv hZ (hw _ (List.mem_of_getElem? (i := 54) rfl)) (hw _ (List.mem_of_getElem? (i := 101) rfl)) (hw _ (List.mem_of_getElem? (i := 100) rfl)) (by decide)) (Cond.privateMethod_at (mvP hZ (hw _ (List.mem_of_getElem? (i := 101) rfl)) (args := #[]))) (mvT hZ (hw _ (List.mem_of_getElem? (i := 102) rfl))) (by decide) (backOf (W := 0) (rm15 l Z a0 hw [] c1 a1 (.ref a2) (-1 : Int32) xl0 f0 h0 n0 Z0 F_row_c1 F_items_c1 F_redDepth_c1 F_next_c1 F_left_a1 F_sizeAndColours_a1 F_right_a1 (by first | assumption | decide | rfl) nc0 E_c1 g_c1 E_a1 g_a1) hZ (hw _ (List.mem_of_getElem? (i := 102) rfl)) (hw _ (List.mem_of_getElem? (i := 55) rfl)) (by decide) (by decide)) (g := (mkF m 84 #[.val (.ref c1), .val (.int (3 : Int32)), .val (.int (0 : Int32)), .unset, .val (.int (0 : Int32)), .unset, .unset] [(.ref c1)])) rfl (by rw [hml]; rfl) (Steps.refl _) (a := c1) (by rw [e1]; exact q2) q2' (argsL := []) (rest := []) (lenOf pd13_3_0 rfl) rfl (by show 2 * 0 + _ ≤ _; exact Nat.le_of_eq rfl) (hb hby d13_84) (fun _ _ => ⟨rfl, e1, (by decide : 0 + 0 ≤ _), (by decide : 0 + 0 ≤ _)⟩)
  dsimp only [Pt.U, Pt.locs, Pt.cells, Pt.slots] at X2 l2 y2 z2 st2 hQ2
  subst l2 y2 z2
  obtain ⟨rfl, N2q, K2, G2_0, G2_1, G2_2, G2_3, G2_4, G2_5, G2_6, G2_7, G2_8⟩ := hQ2
  have N2 := Fr.app N0 N2q
  refine goT st2 ?_
  show Go p.tables e below T2 (mkF m 87 #[.val (.ref c1), .val (.int (3 : Int32)), .val (.int (0 : Int32)), .unset, .val (.int (0 : Int32)), .unset, .unset] [(.ref a1)]) _
  refine go1 (fun _ => XS.goto X2.here hx rfl (pc0 := 87) (pc' := 91) rfl (hb hby d13_87) (by decide) (by decide)) ?_
  show Go p.tables e below T2 (mkF m 91 #[.val (.ref c1), .val (.int (3 : Int32)), .val (.int (0 : Int32)), .unset, .val (.int (0 : Int32)), .unset, .unset] [(.ref a1)]) _
  refine go1 (fun _ => XS.astore X2.here hx rfl (hb hby d13_91) rfl rfl (l' := #[.val (.ref c1), .val (.int (3 : Int32)), .val (.int (0 : Int32)), .unset, .val (.int (0 : Int32)), .val (.ref a1), .unset]) rfl) ?_
  show Go p.tables e below T2 (mkF m 93 #[.val (.ref c1), .val (.int (3 : Int32)), .val (.int (0 : Int32)), .unset, .val (.int (0 : Int32)), .val (.ref a1), .unset] []) _
  refine go1 (fun _ => XS.aloadN X2.here hx rfl (hb hby d13_93) rfl rfl) ?_
  show Go p.tables e below T2 (mkF m 94 #[.val (.ref c1), .val (.int (3 : Int32)), .val (.int (0 : Int32)), .unset, .val (.int (0 : Int32)), .val (.ref a1), .unset] [(.ref c1)]) _
  obtain ⟨cq3, q3, q3'⟩ := G2_0.cell
  obtain ⟨_, _, ⟨T3, L3, k3, n3⟩, -, X3, ⟨Lc3, hQ3, l3, y3, z3⟩, st3⟩ := X2.privateBack hx (y := (⟨"com/example/carmine/carmine/RedBlack$Chain", "next", "()Lcom/example/carmine/carmine/Node;"⟩ : MethodName)) hown (mvT hZ (hw _ (List.mem_of_getElem? (i := 94) rfl))) (mvT hZ (hw _ (List.mem_of_getElem? (i := 95) rfl))) (selPriv hZ (hw _ (List.mem_of_getElem? (i := 54) rfl)) (hw _ (List.mem_of_getElem? (i := 96) rfl)) (hw _ (List.mem_of_getElem? (i := 95) rfl)) (by decide)) (Cond.privateMethod_at (mvP hZ (hw _ (List.mem_of_getElem? (i := 96) rfl)) (args := #[]))) (mvT hZ (hw _ (List.mem_of_getElem? (i := 97) rfl))) (by decide) (backOf (W := 0) (rm14 l Z a0 hw [] c1 a2 (.ref a3) (-1 : Int32) T2.heap n0 (Nat.le_trans Z0 K2.1) G2_2 G2_3 G2_4 G2_5 (F_right_a2.keep K2 (ninS nc1 (ninS (Ne.symm n01) nin0))) (by first | assumption | decide | rfl) nc1 G2_0 g_c1) hZ (hw _ (List.mem_of_getElem? (i := 97) rfl)) (hw _ (List.mem_of_getElem? (i := 55) rfl)) (by decide) (by decide)) (g := (mkF m 94 #[.val (.ref c1), .val (.int (3 : Int32)), .val (.int (0 : Int32)), .unset, .val (.int (0 : Int32)), .val (.ref a1), .unset] [(.ref c1)])) rfl (by rw [hml]; rfl) (Steps.refl _) (a := c1) q3 q3' (argsL := []) (rest := []) (lenOf pd13_3_0 rfl) rfl (by show 2 * 0 + _ ≤ _; exact Nat.le_of_eq rfl) (hb hby d13_94) (fun _ _ => ⟨rfl, rfl, (by decide : 0 + 0 ≤ _), (by decide : 0 + 0 ≤ _)⟩)
  dsimp only [Pt.U, Pt.locs, Pt.cells, Pt.slots] at X3 l3 y3 z3 st3 hQ3
  subst l3 y3 z3
  obtain ⟨rfl, N3q, K3, G3_0, G3_1, G3_2, G3_3, G3_4⟩ := hQ3
  have N3 := Fr.app N2 N3q
  refine goT st3 ?_
  show Go p.tables e below T3 (mkF m 97 #[.val (.ref c1), .val (.int (3 : Int32)), .val (.int (0 : Int32)), .unset, .val (.int (0 : Int32)), .val (.ref a1), .unset] [(.ref a2)]) _
  refine go1 (fun _ => XS.astoreN X3.here hx rfl (hb hby d13_97) rfl rfl (l' := #[.val (.ref c1), .val (.int (3 : Int32)), .val (.int (0 : Int32)), .val (.ref a2), .val (.int (0 : Int32)), .val (.ref a1), .unset]) rfl) ?_
  show Go p.tables e below T3 (mkF m 98 #[.val (.ref c1), .val (.int (3 : Int32)), .val (.int (0 : Int32)), .val (.ref a2), .val (.int (0 : Int32)), .val (.ref a1), .unset] []) _
  refine go1 (fun _ => XS.iloadN X3.here hx rfl (hb hby d13_98) rfl) ?_
  show Go p.tables e below T3 (mkF m 99 #[.val (.ref c1), .val (.int (3 : Int32)), .val (.int (0 : Int32)), .val (.ref a2), .val (.int (0 : Int32)), .val (.ref a1), .unset] [(.int (3 : Int32))]) _
  refine go1 (fun _ => XS.iconst X3.here hx rfl (hb hby d13_99)) ?_
  show Go p.tables e below T3 (mkF m 100 #[.val (.ref c1), .val (.int (3 : Int32)), .val (.int (0 : Int32)), .val (.ref a2), .val (.int (0 : Int32)), .val (.ref a1), .unset] [(.int (1 : Int32)), (.int (3 : Int32))]) _
  refine go1 (fun _ => XS.icmpNo X3.here hx rfl (hb hby d13_100) rfl (tlt (by decide : (1 : Int32) < (3 : Int32))).2.2.2) ?_
  show Go p.tables e below T3 (mkF m 103 #[.val (.ref c1), .val (.int (3 : Int32)), .val (.int (0 : Int32)), .val (.ref a2), .val (.int (0 : Int32)), .val (.ref a1), .unset] []) _
  refine go1 (fun _ => XS.aloadN X3.here hx rfl (hb hby d13_103) rfl rfl) ?_
  show Go p.tables e below T3 (mkF m 104 #[.val (.ref c1), .val (.int (3 : Int32)), .val (.int (0 : Int32)), .val (.ref a2), .val (.int (0 : Int32)), .val (.ref a1), .unset] [(.ref c1)]) _
  obtain ⟨cq4, q4, q4'⟩ := G3_0.cell
  obtain ⟨_, _, ⟨T4, L4, k4, n4⟩, -, X4, ⟨Lc4, hQ4, l4, y4, z4⟩, st4⟩ := X3.privateBack hx (y := (⟨"com/example/carmine/carmine/RedBlack$Chain", "leaf", "()Lcom/example/carmine/carmine/Node;"⟩ : MethodName)) hown (mvT hZ (hw _ (List.mem_of_getElem? (i := 99) rfl))) (mvT hZ (hw _ (List.mem_of_getElem? (i := 100) rfl))) (selPriv hZ (hw _ (List.mem_of_getElem? (i := 54) rfl)) (hw _ (List.mem_of_getElem? (i := 101) rfl)) (hw _ (List.mem_of_getElem? (i := 100) rfl)) (by decide)) (Cond.privateMethod_at (mvP hZ (hw _ (List.mem_of_getElem? (i := 101) rfl)) (args := #[]))) (mvT hZ (hw _ (List.mem_of_getElem? (i := 102) rfl))) (by decide) (backOf (W := 0) (rm15 l Z a0 hw [] c1 a3 u (-1 : Int32) xl2 f2 T3.heap n0 (Nat.le_trans (Nat.le_trans Z0 K2.1) K3.1) G3_1 G3_2 G3_3 G3_4 ((F_left_a3.keep K2 (ninS nc2 (ninS (Ne.symm n02) nin0))).keep K3 (ninS nc2 nin0)) ((F_sizeAndColours_a3.keep K2 (ninS nc2 (ninS (Ne.symm n02) nin0))).keep K3 (ninS nc2 nin0)) ((F_right_a3.keep K2 (ninS nc2 (ninS (Ne.symm n02) nin0))).keep K3 (ninS nc2 nin0)) hu nc2 G3_0 g_c1 ((E_a3.keep K2).keep K3) g_a3) hZ (hw _ (List.mem_of_getElem? (i := 102) rfl)) (hw _ (List.mem_of_getElem? (i := 55) rfl)) (by decide) (by decide)) (g := (mkF m 104 #[.val (.ref c1), .val (.int (3 : Int32)), .val (.int (0 : Int32)), .val (.ref a2), .val (.int (0 : Int32)), .val (.ref a1), .unset] [(.ref c1)])) rfl (by rw [hml]; rfl) (Steps.refl _) (a := c1) q4 q4' (argsL := []) (rest := []) (lenOf pd13_3_0 rfl) rfl (by show 2 * 0 + _ ≤ _; exact Nat.le_of_eq rfl) (hb hby d13_104) (fun _ _ => ⟨rfl, rfl, (by decide : 0 + 0 ≤ _), (by decide : 0 + 0 ≤ _)⟩)
  dsimp only [Pt.U, Pt.locs, Pt.cells, Pt.slots] at X4 l4 y4 z4 st4 hQ4
  subst l4 y4 z4
  obtain ⟨rfl, N4q, K4, G4_0, G4_1, G4_2, G4_3, G4_4, G4_5, G4_6, G4_7, G4_8⟩ := hQ4
  have N4 := Fr.app N3 N4q
  refine goT st4 ?_
  show Go p.tables e below T4 (mkF m 107 #[.val (.ref c1), .val (.int (3 : Int32)), .val (.int (0 : Int32)), .val (.ref a2), .val (.int (0 : Int32)), .val (.ref a1), .unset] [(.ref a3)]) _
  refine go1 (fun _ => XS.goto X4.here hx rfl (pc0 := 107) (pc' := 111) rfl (hb hby d13_107) (by decide) (by decide)) ?_
  show Go p.tables e below T4 (mkF m 111 #[.val (.ref c1), .val (.int (3 : Int32)), .val (.int (0 : Int32)), .val (.ref a2), .val (.int (0 : Int32)), .val (.ref a1), .unset] [(.ref a3)]) _
  refine go1 (fun _ => XS.astore X4.here hx rfl (hb hby d13_111) rfl rfl (l' := #[.val (.ref c1), .val (.int (3 : Int32)), .val (.int (0 : Int32)), .val (.ref a2), .val (.int (0 : Int32)), .val (.ref a1), .val (.ref a3)]) rfl) ?_
  show Go p.tables e below T4 (mkF m 113 #[.val (.ref c1), .val (.int (3 : Int32)), .val (.int (0 : Int32)), .val (.ref a2), .val (.int (0 : Int32)), .val (.ref a1), .val (.ref a3)] []) _
  refine go1 (fun _ => XS.aloadN X4.here hx rfl (hb hby d13_113) rfl rfl) ?_
  show Go p.tables e below T4 (mkF m 114 #[.val (.ref c1), .val (.int (3 : Int32)), .val (.int (0 : Int32)), .val (.ref a2), .val (.int (0 : Int32)), .val (.ref a1), .val (.ref a3)] [(.ref a2)]) _
  refine go1 (fun _ => XS.iload X4.here hx rfl (hb hby d13_114) rfl) ?_
  show Go p.tables e below T4 (mkF m 116 #[.val (.ref c1), .val (.int (3 : Int32)), .val (.int (0 : Int32)), .val (.ref a2), .val (.int (0 : Int32)), .val (.ref a1), .val (.ref a3)] [(.int (0 : Int32)), (.ref a2)]) _
  refine go1 (fun _ => XS.ifYes X4.here hx rfl (pc0 := 116) (pc' := 128) rfl (hb hby d13_116) rfl ((if0 _ _).trans (teq (by decide : (0 : Int32) = (0 : Int32))).1) (by decide) (by decide)) ?_
  show Go p.tables e below T4 (mkF m 128 #[.val (.ref c1), .val (.int (3 : Int32)), .val (.int (0 : Int32)), .val (.ref a2), .val (.int (0 : Int32)), .val (.ref a1), .val (.ref a3)] [(.ref a2)]) _
  refine go1 (fun _ => XS.iconst X4.here hx rfl (hb hby d13_128)) ?_
  show Go p.tables e below T4 (mkF m 129 #[.val (.ref c1), .val (.int (3 : Int32)), .val (.int (0 : Int32)), .val (.ref a2), .val (.int (0 : Int32)), .val (.ref a1), .val (.ref a3)] [(.int (0 : Int32)), (.ref a2)]) _
  refine go1 (fun _ => XS.iload X4.here hx rfl (hb hby d13_129) rfl) ?_
  show Go p.tables e below T4 (mkF m 131 #[.val (.ref c1), .val (.int (3 : Int32)), .val (.int (0 : Int32)), .val (.ref a2), .val (.int (0 : Int32)), .val (.ref a1), .val (.ref a3)] [(.int (0 : Int32)), (.int (0 : Int32)), (.ref a2)]) _
  refine go1 (fun _ => XS.ifYes X4.here hx rfl (pc0 := 131) (pc' := 143) rfl (hb hby d13_131) rfl ((if0 _ _).trans (teq (by decide : (0 : Int32) = (0 : Int32))).1) (by decide) (by decide)) ?_
  show Go p.tables e below T4 (mkF m 143 #[.val (.ref c1), .val (.int (3 : Int32)), .val (.int (0 : Int32)), .val (.ref a2), .val (.int (0 : Int32)), .val (.ref a1), .val (.ref a3)] [(.int (0 : Int32)), (.ref a2)]) _
  refine go1 (fun _ => XS.iconst X4.here hx rfl (hb hby d13_143)) ?_
  show Go p.tables e below T4 (mkF m 144 #[.val (.ref c1), .val (.int (3 : Int32)), .val (.int (0 : Int32)), .val (.ref a2), .val (.int (0 : Int32)), .val (.ref a1), .val (.ref a3)] [(.int (0 : Int32)), (.int (0 : Int32)), (.ref a2)]) _
  refine go1 (fun _ => XS.iloadN X4.here hx rfl (hb hby d13_144) rfl) ?_
  show Go p.tables e below T4 (mkF m 145 #[.val (.ref c1), .val (.int (3 : Int32)), .val (.int (0 : Int32)), .val (.ref a2), .val (.int (0 : Int32)), .val (.ref a1), .val (.ref a3)] [(.int (3 : Int32)), (.int (0 : Int32)), (.int (0 : Int32)), (.ref a2)]) _
  obtain ⟨cq5, kq5, q5a, q5b, q5c⟩ := isOf hZ rfl (((E_a2.keep K2).keep K3).keep K4)
  obtain ⟨_, _, ⟨T5, L5, k5, n5⟩, -, X5, ⟨Lc5, hQ5, l5, y5, z5⟩, st5⟩ := X4.virtualBack hx (y := (⟨"com/example/carmine/carmine/Node", "setColoursAndSize", "(ZZI)V"⟩ : MethodName)) (z := (⟨"com/example/carmine/carmine/Node", "setColoursAndSize", "(ZZI)V"⟩ : MethodName)) hown (mvT hZ (hw _ (List.mem_of_getElem? (i := 103) rfl))) (mvT hZ (hw _ (List.mem_of_getElem? (i := 104) rfl))) (notFace_of_selects (args := #[]) (mvT hZ (hw _ (List.mem_of_getElem? (i := 106) rfl)))) (mvT hZ (hw _ (List.mem_of_getElem? (i := 106) rfl))) (mvT hZ (hw _ (List.mem_of_getElem? (i := 105) rfl))) (by decide) (backOf (W := 0) (rm16 l Z a0 hw [] a2 (0 : Int32) (0 : Int32) (3 : Int32) f1 xl1 (.ref a3) T4.heap n0 (Nat.le_trans (Nat.le_trans (Nat.le_trans Z0 K2.1) K3.1) K4.1) (((F_left_a2.keep K2 (ninS nc1 (ninS (Ne.symm n01) nin0))).keep K3 (ninS nc1 nin0)).keep K4 (ninS nc1 (ninS n12 nin0))) (((F_sizeAndColours_a2.keep K2 (ninS nc1 (ninS (Ne.symm n01) nin0))).keep K3 (ninS nc1 nin0)).keep K4 (ninS nc1 (ninS n12 nin0))) (((F_right_a2.keep K2 (ninS nc1 (ninS (Ne.symm n01) nin0))).keep K3 (ninS nc1 nin0)).keep K4 (ninS nc1 (ninS n12 nin0))) (((E_a2.keep K2).keep K3).keep K4) g_a2) hZ (hw _ (List.mem_of_getElem? (i := 107) rfl)) (hw _ (List.mem_of_getElem? (i := 2) rfl)) (by decide) (by decide)) q5a q5c (g := (mkF m 145 #[.val (.ref c1), .val (.int (3 : Int32)), .val (.int (0 : Int32)), .val (.ref a2), .val (.int (0 : Int32)), .val (.ref a1), .val (.ref a3)] [(.int (3 : Int32)), (.int (0 : Int32)), (.int (0 : Int32)), (.ref a2)])) rfl (by rw [hml]; rfl) (Steps.refl _) (argsL := [(.int (0 : Int32)), (.int (0 : Int32)), (.int (3 : Int32))]) (rest := []) (lenOf pd13_3_1 rfl) rfl (by show 2 * 0 + _ ≤ _; exact Nat.le_of_eq rfl) (hb hby d13_145) (fun _ _ => ⟨rfl, rfl, (by decide : 0 + 0 ≤ _), (by decide : 0 + 0 ≤ _)⟩)
  dsimp only [Pt.U, Pt.locs, Pt.cells, Pt.slots] at X5 l5 y5 z5 st5 hQ5
  subst l5 y5 z5
  obtain ⟨rfl, N5q, K5, G5_0, G5_1, G5_2, G5_3⟩ := hQ5
  have N5 := Fr.app N4 N5q
  refine goT st5 ?_
  show Go p.tables e below T5 (mkF m 148 #[.val (.ref c1), .val (.int (3 : Int32)), .val (.int (0 : Int32)), .val (.ref a2), .val (.int (0 : Int32)), .val (.ref a1), .val (.ref a3)] []) _
  refine go1 (fun _ => XS.aloadN X5.here hx rfl (hb hby d13_148) rfl rfl) ?_
  show Go p.tables e below T5 (mkF m 149 #[.val (.ref c1), .val (.int (3 : Int32)), .val (.int (0 : Int32)), .val (.ref a2), .val (.int (0 : Int32)), .val (.ref a1), .val (.ref a3)] [(.ref a2)]) _
  refine go1 (fun _ => XS.aload X5.here hx rfl (hb hby d13_149) rfl rfl) ?_
  show Go p.tables e below T5 (mkF m 151 #[.val (.ref c1), .val (.int (3 : Int32)), .val (.int (0 : Int32)), .val (.ref a2), .val (.int (0 : Int32)), .val (.ref a1), .val (.ref a3)] [(.ref a1), (.ref a2)]) _
  obtain ⟨T6, h6, X6, e6, W6, st6⟩ := putF X5 hx hZ hown (host := "") (Or.inl (hw _ (List.mem_of_getElem? (i := 108) rfl))) Via.refl rfl G5_1 G5_0 (Or.inl (hw _ (List.mem_of_getElem? (i := 109) rfl))) (hw _ (List.mem_of_getElem? (i := 1) rfl)) (ty := (.object "com/example/carmine/carmine/Node")) (by decide) rfl rfl (g := (mkF m 151 #[.val (.ref c1), .val (.int (3 : Int32)), .val (.int (0 : Int32)), .val (.ref a2), .val (.int (0 : Int32)), .val (.ref a1), .val (.ref a3)] [(.ref a1), (.ref a2)])) rfl rfl (hb hby d13_151)
  refine go1 st6 ?_
  have Fw6 := G5_1.same W6
  have N6 := Fr.snoc X6 N5 g_a2
  show Go p.tables e below T6 (mkF m 154 #[.val (.ref c1), .val (.int (3 : Int32)), .val (.int (0 : Int32)), .val (.ref a2), .val (.int (0 : Int32)), .val (.ref a1), .val (.ref a3)] []) _
  refine go1 (fun _ => XS.aloadN X6.here hx rfl (hb hby d13_154) rfl rfl) ?_
  show Go p.tables e below T6 (mkF m 155 #[.val (.ref c1), .val (.int (3 : Int32)), .val (.int (0 : Int32)), .val (.ref a2), .val (.int (0 : Int32)), .val (.ref a1), .val (.ref a3)] [(.ref a2)]) _
  refine go1 (fun _ => XS.aload X6.here hx rfl (hb hby d13_155) rfl rfl) ?_
  show Go p.tables e below T6 (mkF m 157 #[.val (.ref c1), .val (.int (3 : Int32)), .val (.int (0 : Int32)), .val (.ref a2), .val (.int (0 : Int32)), .val (.ref a1), .val (.ref a3)] [(.ref a3), (.ref a2)]) _
  obtain ⟨T7, h7, X7, e7, W7, st7⟩ := putF X6 hx hZ hown (host := "") (Or.inl (hw _ (List.mem_of_getElem? (i := 98) rfl))) Via.refl e6 (G5_3.other W6 (Or.inr (slot_ne (Or.inl (hw _ (List.mem_of_getElem? (i := 27) rfl))) (Or.inl (hw _ (List.mem_of_getElem? (i := 109) rfl))) (by decide) (t := (.object "com/example/carmine/carmine/Node")) (t' := (.object "com/example/carmine/carmine/Node")) (by decide) (by decide)))) (G5_0.wr W6) (Or.inl (hw _ (List.mem_of_getElem? (i := 27) rfl))) (hw _ (List.mem_of_getElem? (i := 1) rfl)) (ty := (.object "com/example/carmine/carmine/Node")) (by decide) rfl rfl (g := (mkF m 157 #[.val (.ref c1), .val (.int (3 : Int32)), .val (.int (0 : Int32)), .val (.ref a2), .val (.int (0 : Int32)), .val (.ref a1), .val (.ref a3)] [(.ref a3), (.ref a2)])) rfl rfl (hb hby d13_157)
  refine go1 st7 ?_
  have Fw7 := (G5_3.other W6 (Or.inr (slot_ne (Or.inl (hw _ (List.mem_of_getElem? (i := 27) rfl))) (Or.inl (hw _ (List.mem_of_getElem? (i := 109) rfl))) (by decide) (t := (.object "com/example/carmine/carmine/Node")) (t' := (.object "com/example/carmine/carmine/Node")) (by decide) (by decide)))).same W7
  have N7 := Fr.snoc X7 N6 g_a2
  show Go p.tables e below T7 (mkF m 160 #[.val (.ref c1), .val (.int (3 : Int32)), .val (.int (0 : Int32)), .val (.ref a2), .val (.int (0 : Int32)), .val (.ref a1), .val (.ref a3)] []) _
  refine go1 (fun _ => XS.aloadN X7.here hx rfl (hb hby d13_160) rfl rfl) ?_
  show Go p.tables e below T7 (mkF m 161 #[.val (.ref c1), .val (.int (3 : Int32)), .val (.int (0 : Int32)), .val (.ref a2), .val (.int (0 : Int32)), .val (.ref a1), .val (.ref a3)] [(.ref a2)]) _
  refine goR X7 (BodyLoose.notSynchronized Bd) (v := (some (.ref a2))) (fun h => by rw [Bd.returns] at h; cases h) (Q13_3 Z c1 a1 a2 a3 u xl0 f0 xl1 f1 xl2 f2 h0 n0) (fun fs hr => retOut X7 hx (t := (.object "com/example/carmine/carmine/Node")) (w := (.ref a2)) Bd.returns rfl (Or.inr (Or.inr (Or.inr (Or.inr ⟨rfl, rfl, rfl⟩)))) (hb hby d13_161) hr) (by decide) (by decide) ?_
  show Q13_3 Z c1 a1 a2 a3 u xl0 f0 xl1 f1 xl2 f2 h0 n0 _ T7.heap _
  rw [e7]
  exact ⟨rfl, N7, (((((((Keep.refl h0 [c1, a1, a2, a3]).trans K2 (allS (Or.inl (List.mem_of_getElem? (i := 0) rfl)) (allS (Or.inl (List.mem_of_getElem? (i := 1) rfl)) all0))).trans K3 (allS (Or.inl (List.mem_of_getElem? (i := 0) rfl)) all0)).trans K4 (allS (Or.inl (List.mem_of_getElem? (i := 0) rfl)) (allS (Or.inl (List.mem_of_getElem? (i := 3) rfl)) all0))).trans K5 (allS (Or.inl (List.mem_of_getElem? (i := 2) rfl)) all0)).wr W6 (Or.inl (List.mem_of_getElem? (i := 2) rfl))).wr W7 (Or.inl (List.mem_of_getElem? (i := 2) rfl))), (((G4_0.keep K5).wr W6).wr W7), ((G5_0.wr W6).wr W7), (Fw6.other W7 (Or.inr (slot_ne (Or.inl (hw _ (List.mem_of_getElem? (i := 109) rfl))) (Or.inl (hw _ (List.mem_of_getElem? (i := 27) rfl))) (by decide) (t := (.object "com/example/carmine/carmine/Node")) (t' := (.object "com/example/carmine/carmine/Node")) (by decide) (by decide)))), Fw7⟩
theorem d10_0 : decode prog_9_method_2_code 0 = .ok (.bipush 32, 2) := by decide +kernel
theorem d10_2 : decode prog_9_method_2_code 2 = .ok (.iload_n 1, 1) := by decide +kernel
theorem d10_3 : decode prog_9_method_2_code 3 = .ok (.invokestatic 27, 3) := by decide +kernel
theorem d10_6 : decode prog_9_method_2_code 6 = .ok (.isub, 1) := by decide +kernel
theorem d10_7 : decode prog_9_method_2_code 7 = .ok (.istore_n 2, 1) := by decide +kernel
theorem d10_8 : decode prog_9_method_2_code 8 = .ok (.aload_n 0, 1) := by decide +kernel
theorem d10_9 : decode prog_9_method_2_code 9 = .ok (.iload_n 1, 1) := by decide +kernel
theorem d10_10 : decode prog_9_method_2_code 10 = .ok (.i2l, 1) := by decide +kernel
theorem d10_11 : decode prog_9_method_2_code 11 = .ok (.lconst 1, 1) := by decide +kernel
theorem d10_12 : decode prog_9_method_2_code 12 = .ok (.iload_n 2, 1) := by decide +kernel
theorem d10_13 : decode prog_9_method_2_code 13 = .ok (.lshl, 1) := by decide +kernel
theorem d10_14 : decode prog_9_method_2_code 14 = .ok (.lconst 1, 1) := by decide +kernel
theorem d10_15 : decode prog_9_method_2_code 15 = .ok (.lsub, 1) := by decide +kernel
theorem d10_16 : decode prog_9_method_2_code 16 = .ok (.lcmp, 1) := by decide +kernel
theorem d10_17 : decode prog_9_method_2_code 17 = .ok (.ifCond .ne 7, 3) := by decide +kernel
theorem d10_20 : decode prog_9_method_2_code 20 = .ok (.iconst (-1), 1) := by decide +kernel
theorem d10_21 : decode prog_9_method_2_code 21 = .ok (.goto 6, 3) := by decide +kernel
theorem d10_27 : decode prog_9_method_2_code 27 = .ok (.putfield 31, 3) := by decide +kernel
theorem d10_30 : decode prog_9_method_2_code 30 = .ok (.iload_n 1, 1) := by decide +kernel
theorem d10_31 : decode prog_9_method_2_code 31 = .ok (.ifCond .le 12, 3) := by decide +kernel
theorem d10_43 : decode prog_9_method_2_code 43 = .ok (.aconst_null, 1) := by decide +kernel
theorem d10_44 : decode prog_9_method_2_code 44 = .ok (.areturn, 1) := by decide +kernel
theorem pn_10_0 : plainName "com/example/carmine/carmine/RedBlack$Chain" = true := by first | (simp [plainName, overriddenIn]; done) | decide +kernel
theorem pd10_0_0 : parseMethodDescriptor "(I)I" = some ⟨[.int], some .int⟩ := by decide +kernel
theorem ef_10_0 (m : MethodId) (c1 : Addr) : entryFrame m #[(.ref c1), (.int (0 : Int32))] 3 = mkF m 0 #[.val (.ref c1), .val (.int (0 : Int32)), .unset] [] := by first | (simp [entryFrame, mkF, argsToLocals, Value.category]; done) | rfl
def Q10_0 (Z : State) (c1 : Addr) (h0 : Heap) (n0 : Nat) (v : Option Value) (h : Heap) (L : List Loc) : Prop := v = some .null ∧ Fr n0 L ∧ Keep h0 h [c1] ∧ Exa Z h c1 "com/example/carmine/carmine/RedBlack$Chain"
set_option maxRecDepth 65536 in
set_option maxHeartbeats 40000000 in
theorem rm10_0 (l : Launch) (Z : State) (a0 : Array Value) (hw : ∀ d ∈ tables_1, d.before a0 Z = true) (ws : List Jvm.Cond) (c1 : Addr) (h0 : Heap) (n0 : Nat) (Z0 : n0 ≤ h0.size) (F_row_c1 : Fld Z h0 c1 "com/example/carmine/carmine/RedBlack$Chain" "row" "Lcom/example/carmine/carmine/RedBlack$Row;" .null) (F_items_c1 : Fld Z h0 c1 "com/example/carmine/carmine/RedBlack$Chain" "items" "Ljava/util/Iterator;" .null) (F_redDepth_c1 : Fld Z h0 c1 "com/example/carmine/carmine/RedBlack$Chain" "redDepth" "I" (.int (0 : Int32))) (F_next_c1 : Fld Z h0 c1 "com/example/carmine/carmine/RedBlack$Chain" "next" "Lcom/example/carmine/carmine/Node;" .null) (E_c1 : Exa Z h0 c1 "com/example/carmine/carmine/RedBlack$Chain") (g_c1 : n0 ≤ c1) :
    MetFree l (⟨"com/example/carmine/carmine/RedBlack$Chain", "tree", "(I)Lcom/example/carmine/carmine/Node;"⟩ : MethodName) (head1 (Jvm.Cond.code (⟨"com/example/carmine/carmine/RedBlack$Chain", "tree", "(I)Lcom/example/carmine/carmine/Node;"⟩ : MethodName) prog_9_method_2_code 3 (some (.object "com/example/carmine/carmine/Node")) :: ws) ({ frames := 1, cells := 0, slots := 0, locals := 14 } : Room)) (fun a U => a = #[(.ref c1), (.int (0 : Int32))] ∧ Z.Warmed39 U.vm ∧ U.heap = h0) (fun _ _ _ _ _ => True) (fun _ U o U' => ∃ v L, o = .returned v ∧ Q10_0 Z c1 h0 n0 v U'.heap L ∧ FrameEnd U o U' L ({ frames := 1, cells := 0, slots := 0, locals := 14 } : Room).cells ({ frames := 1, cells := 0, slots := 0, locals := 14 } : Room).slots) := by
  refine MetFree.of_bodySF (plainFor_of_name pn_10_0) hisR ?_
  intro p e s m args below meth c s₁ Bd hml0 hP hK
  obtain ⟨rfl, hZ, hh⟩ := hP
  have hx := Bd.exec
  have hby := Bd.bytes
  have hml : c.maxLocals = 3 := hml0
  have hown : s.vm.findClass "com/example/carmine/carmine/RedBlack$Chain" = some m.cls := findClass_of_methodNamed Bd.named
  have hnm := (name_of_methodNamed Bd.named Bd.method).1
  have X0 : Stand p l e ({ frames := 1, cells := 0, slots := 0, locals := 14 } : Room) s m #[(.ref c1), (.int (0 : Int32))] below meth c s₁ [] 0 0 := Stand.of_body Bd
  have e0 : s₁.heap = h0 := by rw [← hh, Bd.state]; rfl
  have N0 := Fr.nil n0
  refine goB (ef_10_0 m c1) ?_
  show Go p.tables e below s₁ (mkF m 0 #[.val (.ref c1), .val (.int (0 : Int32)), .unset] []) _
  refine go1 (fun _ => XS.bipush X0.here hx rfl (hb hby d10_0)) ?_
  show Go p.tables e below s₁ (mkF m 2 #[.val (.ref c1), .val (.int (0 : Int32)), .unset] [(.int (32 : Int32))]) _
  refine go1 (fun _ => XS.iloadN X0.here hx rfl (hb hby d10_2) rfl) ?_
  show Go p.tables e below s₁ (mkF m 3 #[.val (.ref c1), .val (.int (0 : Int32)), .unset] [(.int (0 : Int32)), (.int (32 : Int32))]) _
  obtain ⟨_, _, ⟨T1, L1, k1, n1⟩, -, X1, ⟨Lc1, hQ1, l1, y1, z1⟩, st1⟩ := Jvm.LawKit.callS X0 hx (y := (⟨"java/lang/Integer", "numberOfLeadingZeros", "(I)I"⟩ : MethodName)) hown (mvT hZ (hw _ (List.mem_of_getElem? (i := 76) rfl))) (mvT hZ (hw _ (List.mem_of_getElem? (i := 77) rfl))) (mvT hZ (hw _ (List.mem_of_getElem? (i := 5) rfl))) (mvT hZ (hw _ (List.mem_of_getElem? (i := 78) rfl))) (by decide) (backOf (W := 1) (rm11_0 l Z a0 hw []  h0 n0 Z0 ) hZ (hw _ (List.mem_of_getElem? (i := 78) rfl)) (hw _ (List.mem_of_getElem? (i := 5) rfl)) (by decide) (by decide)) (g := (mkF m 3 #[.val (.ref c1), .val (.int (0 : Int32)), .unset] [(.int (0 : Int32)), (.int (32 : Int32))])) rfl (by rw [hml]; rfl) (argsL := [(.int (0 : Int32))]) (rest := [(.int (32 : Int32))]) (lenOf pd10_0_0 rfl) rfl (by show 2 * 0 + _ ≤ _; exact Nat.le_of_eq rfl) (hb hby d10_3) (fun _ _ => ⟨rfl, e0, (by decide : 0 + 0 ≤ _), (by decide : 0 + 0 ≤ _)⟩)
  dsimp only [Pt.U, Pt.locs, Pt.cells, Pt.slots] at X1 l1 y1 z1 st1 hQ1
  subst l1 y1 z1
  obtain ⟨rfl, N1q, e1⟩ := hQ1
  have N1 := Fr.app N0 N1q
  refine go1 st1 ?_
  show Go p.tables e below T1 (mkF m 6 #[.val (.ref c1), .val (.int (0 : Int32)), .unset] [(.int (32 : Int32)), (.int (32 : Int32))]) _
  refine go1 (fun _ => XS.isub X1.here hx rfl (hb hby d10_6) rfl) ?_
  show Go p.tables e below T1 (mkF m 7 #[.val (.ref c1), .val (.int (0 : Int32)), .unset] [(.int (0 : Int32))]) _
  refine go1 (fun _ => XS.istoreN X1.here hx rfl (hb hby d10_7) rfl (l' := #[.val (.ref c1), .val (.int (0 : Int32)), .val (.int (0 : Int32))]) rfl) ?_
  show Go p.tables e below T1 (mkF m 8 #[.val (.ref c1), .val (.int (0 : Int32)), .val (.int (0 : Int32))] []) _
  refine go1 (fun _ => XS.aloadN X1.here hx rfl (hb hby d10_8) rfl rfl) ?_
  show Go p.tables e below T1 (mkF m 9 #[.val (.ref c1), .val (.int (0 : Int32)), .val (.int (0 : Int32))] [(.ref c1)]) _
  refine go1 (fun _ => XS.iloadN X1.here hx rfl (hb hby d10_9) rfl) ?_
  show Go p.tables e below T1 (mkF m 10 #[.val (.ref c1), .val (.int (0 : Int32)), .val (.int (0 : Int32))] [(.int (0 : Int32)), (.ref c1)]) _
  refine go1 (fun _ => XS.i2l X1.here hx rfl (hb hby d10_10) rfl) ?_
  show Go p.tables e below T1 (mkF m 11 #[.val (.ref c1), .val (.int (0 : Int32)), .val (.int (0 : Int32))] [(.long (0 : Int64)), (.ref c1)]) _
  refine go1 (fun _ => XS.lconst X1.here hx rfl (hb hby d10_11)) ?_
  show Go p.tables e below T1 (mkF m 12 #[.val (.ref c1), .val (.int (0 : Int32)), .val (.int (0 : Int32))] [(.long (1 : Int64)), (.long (0 : Int64)), (.ref c1)]) _
  refine go1 (fun _ => XS.iloadN X1.here hx rfl (hb hby d10_12) rfl) ?_
  show Go p.tables e below T1 (mkF m 13 #[.val (.ref c1), .val (.int (0 : Int32)), .val (.int (0 : Int32))] [(.int (0 : Int32)), (.long (1 : Int64)), (.long (0 : Int64)), (.ref c1)]) _
  refine go1 (fun _ => XS.lshl X1.here hx rfl (hb hby d10_13) rfl) ?_
  show Go p.tables e below T1 (mkF m 14 #[.val (.ref c1), .val (.int (0 : Int32)), .val (.int (0 : Int32))] [(.long (1 : Int64)), (.long (0 : Int64)), (.ref c1)]) _
  refine go1 (fun _ => XS.lconst X1.here hx rfl (hb hby d10_14)) ?_
  show Go p.tables e below T1 (mkF m 15 #[.val (.ref c1), .val (.int (0 : Int32)), .val (.int (0 : Int32))] [(.long (1 : Int64)), (.long (1 : Int64)), (.long (0 : Int64)), (.ref c1)]) _
  refine go1 (fun _ => XS.lsub X1.here hx rfl (hb hby d10_15) rfl) ?_
  show Go p.tables e below T1 (mkF m 16 #[.val (.ref c1), .val (.int (0 : Int32)), .val (.int (0 : Int32))] [(.long (0 : Int64)), (.long (0 : Int64)), (.ref c1)]) _
  refine go1 (fun _ => XS.lcmp X1.here hx rfl (hb hby d10_16) rfl) ?_
  show Go p.tables e below T1 (mkF m 17 #[.val (.ref c1), .val (.int (0 : Int32)), .val (.int (0 : Int32))] [(.int (lcmpW (0 : Int64) (0 : Int64))), (.ref c1)]) _
  refine go1 (fun _ => XS.ifNo X1.here hx rfl (hb hby d10_17) rfl ((if0 _ _).trans (teq ((lw_eq _ _).mpr (by decide : (0 : Int64) = (0 : Int64)))).2)) ?_
  show Go p.tables e below T1 (mkF m 20 #[.val (.ref c1), .val (.int (0 : Int32)), .val (.int (0 : Int32))] [(.ref c1)]) _
  refine go1 (fun _ => XS.iconst X1.here hx rfl (hb hby d10_20)) ?_
  show Go p.tables e below T1 (mkF m 21 #[.val (.ref c1), .val (.int (0 : Int32)), .val (.int (0 : Int32))] [(.int (-1 : Int32)), (.ref c1)]) _
  refine go1 (fun _ => XS.goto X1.here hx rfl (pc0 := 21) (pc' := 27) rfl (hb hby d10_21) (by decide) (by decide)) ?_
  show Go p.tables e below T1 (mkF m 27 #[.val (.ref c1), .val (.int (0 : Int32)), .val (.int (0 : Int32))] [(.int (-1 : Int32)), (.ref c1)]) _
  obtain ⟨T2, h2, X2, e2, W2, st2⟩ := putF X1 hx hZ hown (host := "") (Or.inl (hw _ (List.mem_of_getElem? (i := 79) rfl))) Via.refl e1 F_redDepth_c1 E_c1 (Or.inl (hw _ (List.mem_of_getElem? (i := 80) rfl))) (hw _ (List.mem_of_getElem? (i := 54) rfl)) (ty := .int) (by decide) rfl rfl (g := (mkF m 27 #[.val (.ref c1), .val (.int (0 : Int32)), .val (.int (0 : Int32))] [(.int (-1 : Int32)), (.ref c1)])) rfl rfl (hb hby d10_27)
  refine go1 st2 ?_
  have Fw2 := F_redDepth_c1.same W2
  have N2 := Fr.snoc X2 N1 g_c1
  show Go p.tables e below T2 (mkF m 30 #[.val (.ref c1), .val (.int (0 : Int32)), .val (.int (0 : Int32))] []) _
  refine go1 (fun _ => XS.iloadN X2.here hx rfl (hb hby d10_30) rfl) ?_
  show Go p.tables e below T2 (mkF m 31 #[.val (.ref c1), .val (.int (0 : Int32)), .val (.int (0 : Int32))] [(.int (0 : Int32))]) _
  refine go1 (fun _ => XS.ifYes X2.here hx rfl (pc0 := 31) (pc' := 43) rfl (hb hby d10_31) rfl ((if0 _ _).trans (flt (by decide : ¬ ((0 : Int32) < (0 : Int32)))).2.2.2) (by decide) (by decide)) ?_
  show Go p.tables e below T2 (mkF m 43 #[.val (.ref c1), .val (.int (0 : Int32)), .val (.int (0 : Int32))] []) _
  refine go1 (fun _ => XS.aconstNull X2.here hx rfl (hb hby d10_43)) ?_
  show Go p.tables e below T2 (mkF m 44 #[.val (.ref c1), .val (.int (0 : Int32)), .val (.int (0 : Int32))] [.null]) _
  refine goR X2 (BodyLoose.notSynchronized Bd) (v := (some .null)) (fun h => by rw [Bd.returns] at h; cases h) (Q10_0 Z c1 h0 n0) (fun fs hr => retOut X2 hx (t := (.object "com/example/carmine/carmine/Node")) (w := .null) Bd.returns rfl (Or.inr (Or.inr (Or.inr (Or.inr ⟨rfl, rfl, rfl⟩)))) (hb hby d10_44) hr) (by decide) (by decide) ?_
  show Q10_0 Z c1 h0 n0 _ T2.heap _
  rw [e2]
  exact ⟨rfl, N2, ((Keep.refl h0 [c1]).wr W2 (Or.inl (List.mem_of_getElem? (i := 0) rfl))), (E_c1.wr W2)⟩
theorem d10_34 : decode prog_9_method_2_code 34 = .ok (.aload_n 0, 1) := by decide +kernel
theorem d10_35 : decode prog_9_method_2_code 35 = .ok (.iload_n 1, 1) := by decide +kernel
theorem d10_36 : decode prog_9_method_2_code 36 = .ok (.iconst 0, 1) := by decide +kernel
theorem d10_37 : decode prog_9_method_2_code 37 = .ok (.invokevirtual 35, 3) := by decide +kernel
theorem d10_40 : decode prog_9_method_2_code 40 = .ok (.goto 4, 3) := by decide +kernel
theorem pn_10_1 : plainName "com/example/carmine/carmine/RedBlack$Chain" = true := by first | (simp [plainName, overriddenIn]; done) | decide +kernel
theorem pd10_1_0 : parseMethodDescriptor "(I)I" = some ⟨[.int], some .int⟩ := by decide +kernel
theorem pd10_1_1 : parseMethodDescriptor "(II)Lcom/example/carmine/carmine/Node;" = some ⟨[.int, .int], some (.object "com/example/carmine/carmine/Node")⟩ := by decide +kernel
theorem ef_10_1 (m : MethodId) (c1 : Addr) : entryFrame m #[(.ref c1), (.int (1 : Int32))] 3 = mkF m 0 #[.val (.ref c1), .val (.int (1 : Int32)), .unset] [] := by first | (simp [entryFrame, mkF, argsToLocals, Value.category]; done) | rfl
def Q10_1 (Z : State) (c1 : Addr) (a1 : Addr) (u : Value) (xl0 : Value) (f0 : Int32) (h0 : Heap) (n0 : Nat) (v : Option Value) (h : Heap) (L : List Loc) : Prop := v = some (.ref a1) ∧ Fr n0 L ∧ Keep h0 h [c1, a1] ∧ Exa Z h c1 "com/example/carmine/carmine/RedBlack$Chain" ∧ Exa Z h a1 "com/example/carmine/carmine/Node" ∧ Fld Z h a1 "com/example/carmine/carmine/Node" "left" "Lcom/example/carmine/carmine/Node;" .null ∧ Fld Z h a1 "com/example/carmine/carmine/Node" "right" "Lcom/example/carmine/carmine/Node;" .null
set_option maxRecDepth 65536 in
set_option maxHeartbeats 40000000 in
theorem rm10_1 (l : Launch) (Z : State) (a0 : Array Value) (hw : ∀ d ∈ tables_1, d.before a0 Z = true) (ws : List Jvm.Cond) (c1 : Addr) (a1 : Addr) (u : Value) (xl0 : Value) (f0 : Int32) (h0 : Heap) (n0 : Nat) (Z0 : n0 ≤ h0.size) (F_row_c1 : Fld Z h0 c1 "com/example/carmine/carmine/RedBlack$Chain" "row" "Lcom/example/carmine/carmine/RedBlack$Row;" .null) (F_items_c1 : Fld Z h0 c1 "com/example/carmine/carmine/RedBlack$Chain" "items" "Ljava/util/Iterator;" .null) (F_redDepth_c1 : Fld Z h0 c1 "com/example/carmine/carmine/RedBlack$Chain" "redDepth" "I" (.int (0 : Int32))) (F_next_c1 : Fld Z h0 c1 "com/example/carmine/carmine/RedBlack$Chain" "next" "Lcom/example/carmine/carmine/Node;" (.ref a1)) (E_c1 : Exa Z h0 c1 "com/example/carmine/carmine/RedBlack$Chain") (g_c1 : n0 ≤ c1) (F_left_a1 : Fld Z h0 a1 "com/example/carmine/carmine/Node" "left" "Lcom/example/carmine/carmine/Node;" xl0) (F_sizeAndColours_a1 : Fld Z h0 a1 "com/example/carmine/carmine/Node" "sizeAndColours" "I" (.int f0)) (F_right_a1 : Fld Z h0 a1 "com/example/carmine/carmine/Node" "right" "Lcom/example/carmine/carmine/Node;" u) (E_a1 : Exa Z h0 a1 "com/example/carmine/carmine/Node") (g_a1 : n0 ≤ a1) (nc0 : a1 ≠ c1) (hu : u.isRef = true) :
    MetFree l (⟨"com/example/carmine/carmine/RedBlack$Chain", "tree", "(I)Lcom/example/carmine/carmine/Node;"⟩ : MethodName) (head1 (Jvm.Cond.code (⟨"com/example/carmine/carmine/RedBlack$Chain", "tree", "(I)Lcom/example/carmine/carmine/Node;"⟩ : MethodName) prog_9_method_2_code 3 (some (.object "com/example/carmine/carmine/Node")) :: ws) ({ frames := 2, cells := 0, slots := 0, locals := 33 } : Room)) (fun a U => a = #[(.ref c1), (.int (1 : Int32))] ∧ Z.Warmed39 U.vm ∧ U.heap = h0) (fun _ _ _ _ _ => True) (fun _ U o U' => ∃ v L, o = .returned v ∧ Q10_1 Z c1 a1 u xl0 f0 h0 n0 v U'.heap L ∧ FrameEnd U o U' L ({ frames := 2, cells := 0, slots := 0, locals := 33 } : Room).cells ({ frames := 2, cells := 0, slots := 0, locals := 33 } : Room).slots) := by
  refine MetFree.of_bodySF (plainFor_of_name pn_10_1) hisR ?_
  intro p e s m args below meth c s₁ Bd hml0 hP hK
  obtain ⟨rfl, hZ, hh⟩ := hP
  have hx := Bd.exec
  have hby := Bd.bytes
  have hml : c.maxLocals = 3 := hml0
  have hown : s.vm.findClass "com/example/carmine/carmine/RedBlack$Chain" = some m.cls := findClass_of_methodNamed Bd.named
  have hnm := (name_of_methodNamed Bd.named Bd.method).1
  have X0 : Stand p l e ({ frames := 2, cells := 0, slots := 0, locals := 33 } : Room) s m #[(.ref c1), (.int (1 : Int32))] below meth c s₁ [] 0 0 := Stand.of_body Bd
  have e0 : s₁.heap = h0 := by rw [← hh, Bd.state]; rfl
  have N0 := Fr.nil n0
  refine goB (ef_10_1 m c1) ?_
  show Go p.tables e below s₁ (mkF m 0 #[.val (.ref c1), .val (.int (1 : Int32)), .unset] []) _
  refine go1 (fun _ => XS.bipush X0.here hx rfl (hb hby d10_0)) ?_
  show Go p.tables e below s₁ (mkF m 2 #[.val (.ref c1), .val (.int (1 : Int32)), .unset] [(.int (32 : Int32))]) _
  refine go1 (fun _ => XS.iloadN X0.here hx rfl (hb hby d10_2) rfl) ?_
  show Go p.tables e below s₁ (mkF m 3 #[.val (.ref c1), .val (.int (1 : Int32)), .unset] [(.int (1 : Int32)), (.int (32 : Int32))]) _
  obtain ⟨_, _, ⟨T1, L1, k1, n1⟩, -, X1, ⟨Lc1, hQ1, l1, y1, z1⟩, st1⟩ := Jvm.LawKit.callS X0 hx (y := (⟨"java/lang/Integer", "numberOfLeadingZeros", "(I)I"⟩ : MethodName)) hown (mvT hZ (hw _ (List.mem_of_getElem? (i := 76) rfl))) (mvT hZ (hw _ (List.mem_of_getElem? (i := 77) rfl))) (mvT hZ (hw _ (List.mem_of_getElem? (i := 5) rfl))) (mvT hZ (hw _ (List.mem_of_getElem? (i := 78) rfl))) (by decide) (backOf (W := 1) (rm11_1 l Z a0 hw []  h0 n0 Z0 ) hZ (hw _ (List.mem_of_getElem? (i := 78) rfl)) (hw _ (List.mem_of_getElem? (i := 5) rfl)) (by decide) (by decide)) (g := (mkF m 3 #[.val (.ref c1), .val (.int (1 : Int32)), .unset] [(.int (1 : Int32)), (.int (32 : Int32))])) rfl (by rw [hml]; rfl) (argsL := [(.int (1 : Int32))]) (rest := [(.int (32 : Int32))]) (lenOf pd10_1_0 rfl) rfl (by show 2 * 0 + _ ≤ _; exact Nat.le_of_eq rfl) (hb hby d10_3) (fun _ _ => ⟨rfl, e0, (by decide : 0 + 0 ≤ _), (by decide : 0 + 0 ≤ _)⟩)
  dsimp only [Pt.U, Pt.locs, Pt.cells, Pt.slots] at X1 l1 y1 z1 st1 hQ1
  subst l1 y1 z1
  obtain ⟨rfl, N1q, e1⟩ := hQ1
  have N1 := Fr.app N0 N1q
  refine go1 st1 ?_
  show Go p.tables e below T1 (mkF m 6 #[.val (.ref c1), .val (.int (1 : Int32)), .unset] [(.int (31 : Int32)), (.int (32 : Int32))]) _
  refine go1 (fun _ => XS.isub X1.here hx rfl (hb hby d10_6) rfl) ?_
  show Go p.tables e below T1 (mkF m 7 #[.val (.ref c1), .val (.int (1 : Int32)), .unset] [(.int (1 : Int32))]) _
  refine go1 (fun _ => XS.istoreN X1.here hx rfl (hb hby d10_7) rfl (l' := #[.val (.ref c1), .val (.int (1 : Int32)), .val (.int (1 : Int32))]) rfl) ?_
  show Go p.tables e below T1 (mkF m 8 #[.val (.ref c1), .val (.int (1 : Int32)), .val (.int (1 : Int32))] []) _
  refine go1 (fun _ => XS.aloadN X1.here hx rfl (hb hby d10_8) rfl rfl) ?_
  show Go p.tables e below T1 (mkF m 9 #[.val (.ref c1), .val (.int (1 : Int32)), .val (.int (1 : Int32))] [(.ref c1)]) _
  refine go1 (fun _ => XS.iloadN X1.here hx rfl (hb hby d10_9) rfl) ?_
  show Go p.tables e below T1 (mkF m 10 #[.val (.ref c1), .val (.int (1 : Int32)), .val (.int (1 : Int32))] [(.int (1 : Int32)), (.ref c1)]) _
  refine go1 (fun _ => XS.i2l X1.here hx rfl (hb hby d10_10) rfl) ?_
  show Go p.tables e below T1 (mkF m 11 #[.val (.ref c1), .val (.int (1 : Int32)), .val (.int (1 : Int32))] [(.long (1 : Int64)), (.ref c1)]) _
  refine go1 (fun _ => XS.lconst X1.here hx rfl (hb hby d10_11)) ?_
  show Go p.tables e below T1 (mkF m 12 #[.val (.ref c1), .val (.int (1 : Int32)), .val (.int (1 : Int32))] [(.long (1 : Int64)), (.long (1 : Int64)), (.ref c1)]) _
  refine go1 (fun _ => XS.iloadN X1.here hx rfl (hb hby d10_12) rfl) ?_
  show Go p.tables e below T1 (mkF m 13 #[.val (.ref c1), .val (.int (1 : Int32)), .val (.int (1 : Int32))] [(.int (1 : Int32)), (.long (1 : Int64)), (.long (1 : Int64)), (.ref c1)]) _
  refine go1 (fun _ => XS.lshl X1.here hx rfl (hb hby d10_13) rfl) ?_
  show Go p.tables e below T1 (mkF m 14 #[.val (.ref c1), .val (.int (1 : Int32)), .val (.int (1 : Int32))] [(.long (2 : Int64)), (.long (1 : Int64)), (.ref c1)]) _
  refine go1 (fun _ => XS.lconst X1.here hx rfl (hb hby d10_14)) ?_
  show Go p.tables e below T1 (mkF m 15 #[.val (.ref c1), .val (.int (1 : Int32)), .val (.int (1 : Int32))] [(.long (1 : Int64)), (.long (2 : Int64)), (.long (1 : Int64)), (.ref c1)]) _
  refine go1 (fun _ => XS.lsub X1.here hx rfl (hb hby d10_15) rfl) ?_
  show Go p.tables e below T1 (mkF m 16 #[.val (.ref c1), .val (.int (1 : Int32)), .val (.int (1 : Int32))] [(.long (1 : Int64)), (.long (1 : Int64)), (.ref c1)]) _
  refine go1 (fun _ => XS.lcmp X1.here hx rfl (hb hby d10_16) rfl) ?_
  show Go p.tables e below T1 (mkF m 17 #[.val (.ref c1), .val (.int (1 : Int32)), .val (.int (1 : Int32))] [(.int (lcmpW (1 : Int64) (1 : Int64))), (.ref c1)]) _
  refine go1 (fun _ => XS.ifNo X1.here hx rfl (hb hby d10_17) rfl ((if0 _ _).trans (teq ((lw_eq _ _).mpr (by decide : (1 : Int64) = (1 : Int64)))).2)) ?_
  show Go p.tables e below T1 (mkF m 20 #[.val (.ref c1), .val (.int (1 : Int32)), .val (.int (1 : Int32))] [(.ref c1)]) _
  refine go1 (fun _ => XS.iconst X1.here hx rfl (hb hby d10_20)) ?_
  show Go p.tables e below T1 (mkF m 21 #[.val (.ref c1), .val (.int (1 : Int32)), .val (.int (1 : Int32))] [(.int (-1 : Int32)), (.ref c1)]) _
  refine go1 (fun _ => XS.goto X1.here hx rfl (pc0 := 21) (pc' := 27) rfl (hb hby d10_21) (by decide) (by decide)) ?_
  show Go p.tables e below T1 (mkF m 27 #[.val (.ref c1), .val (.int (1 : Int32)), .val (.int (1 : Int32))] [(.int (-1 : Int32)), (.ref c1)]) _
  obtain ⟨T2, h2, X2, e2, W2, st2⟩ := putF X1 hx hZ hown (host := "") (Or.inl (hw _ (List.mem_of_getElem? (i := 79) rfl))) Via.refl e1 F_redDepth_c1 E_c1 (Or.inl (hw _ (List.mem_of_getElem? (i := 80) rfl))) (hw _ (List.mem_of_getElem? (i := 54) rfl)) (ty := .int) (by decide) rfl rfl (g := (mkF m 27 #[.val (.ref c1), .val (.int (1 : Int32)), .val (.int (1 : Int32))] [(.int (-1 : Int32)), (.ref c1)])) rfl rfl (hb hby d10_27)
  refine go1 st2 ?_
  have Fw2 := F_redDepth_c1.same W2
  have N2 := Fr.snoc X2 N1 g_c1
  show Go p.tables e below T2 (mkF m 30 #[.val (.ref c1), .val (.int (1 : Int32)), .val (.int (1 : Int32))] []) _
  refine go1 (fun _ => XS.iloadN X2.here hx rfl (hb hby d10_30) rfl) ?_
  show Go p.tables e below T2 (mkF m 31 #[.val (.ref c1), .val (.int (1 : Int32)), .val (.int (1 : Int32))] [(.int (1 : Int32))]) _
  refine go1 (fun _ => XS.ifNo X2.here hx rfl (hb hby d10_31) rfl ((if0 _ _).trans (tlt (by decide : (0 : Int32) < (1 : Int32))).2.2.2)) ?_
  show Go p.tables e below T2 (mkF m 34 #[.val (.ref c1), .val (.int (1 : Int32)), .val (.int (1 : Int32))] []) _
  refine go1 (fun _ => XS.aloadN X2.here hx rfl (hb hby d10_34) rfl rfl) ?_
  show Go p.tables e below T2 (mkF m 35 #[.val (.ref c1), .val (.int (1 : Int32)), .val (.int (1 : Int32))] [(.ref c1)]) _
  refine go1 (fun _ => XS.iloadN X2.here hx rfl (hb hby d10_35) rfl) ?_
  show Go p.tables e below T2 (mkF m 36 #[.val (.ref c1), .val (.int (1 : Int32)), .val (.int (1 : Int32))] [(.int (1 : Int32)), (.ref c1)]) _
  refine go1 (fun _ => XS.iconst X2.here hx rfl (hb hby d10_36)) ?_
  show Go p.tables e below T2 (mkF m 37 #[.val (.ref c1), .val (.int (1 : Int32)), .val (.int (1 : Int32))] [(.int (0 : Int32)), (.int (1 : Int32)), (.ref c1)]) _
  obtain ⟨cq3, kq3, q3a, q3b, q3c⟩ := isOf hZ e2 (E_c1.wr W2)
  obtain ⟨_, _, ⟨T3, L3, k3, n3⟩, -, X3, ⟨Lc3, hQ3, l3, y3, z3⟩, st3⟩ := X2.virtualBack hx (y := (⟨"com/example/carmine/carmine/RedBlack$Chain", "subtree", "(II)Lcom/example/carmine/carmine/Node;"⟩ : MethodName)) (z := (⟨"com/example/carmine/carmine/RedBlack$Chain", "subtree", "(II)Lcom/example/carmine/carmine/Node;"⟩ : MethodName)) hown (mvT hZ (hw _ (List.mem_of_getElem? (i := 89) rfl))) (mvT hZ (hw _ (List.mem_of_getElem? (i := 90) rfl))) (notFace_of_selects (args := #[]) (mvT hZ (hw _ (List.mem_of_getElem? (i := 92) rfl)))) (mvT hZ (hw _ (List.mem_of_getElem? (i := 92) rfl))) (mvT hZ (hw _ (List.mem_of_getElem? (i := 91) rfl))) (by decide) (backOf (W := 0) (rm13_1 l Z a0 hw [] c1 a1 u xl0 f0 h2 n0 (Nat.le_trans Z0 (Keep.of_wr W2).1) (F_row_c1.other W2 (Or.inr (slot_ne (Or.inr (hw _ (List.mem_of_getElem? (i := 65) rfl))) (Or.inl (hw _ (List.mem_of_getElem? (i := 80) rfl))) (by decide) (t := (.object "com/example/carmine/carmine/RedBlack$Row")) (t' := .int) (by decide) (by decide)))) (F_items_c1.other W2 (Or.inr (slot_ne (Or.inr (hw _ (List.mem_of_getElem? (i := 67) rfl))) (Or.inl (hw _ (List.mem_of_getElem? (i := 80) rfl))) (by decide) (t := (.object "java/util/Iterator")) (t' := .int) (by decide) (by decide)))) Fw2 (F_next_c1.other W2 (Or.inr (slot_ne (Or.inl (hw _ (List.mem_of_getElem? (i := 63) rfl))) (Or.inl (hw _ (List.mem_of_getElem? (i := 80) rfl))) (by decide) (t := (.object "com/example/carmine/carmine/Node")) (t' := .int) (by decide) (by decide)))) (E_c1.wr W2) g_c1 (F_left_a1.other W2 (Or.inl nc0)) (F_sizeAndColours_a1.other W2 (Or.inl nc0)) (F_right_a1.other W2 (Or.inl nc0)) (E_a1.wr W2) g_a1 nc0 hu) hZ (hw _ (List.mem_of_getElem? (i := 93) rfl)) (hw _ (List.mem_of_getElem? (i := 55) rfl)) (by decide) (by decide)) q3a q3c (g := (mkF m 37 #[.val (.ref c1), .val (.int (1 : Int32)), .val (.int (1 : Int32))] [(.int (0 : Int32)), (.int (1 : Int32)), (.ref c1)])) rfl (by rw [hml]; rfl) (Steps.refl _) (argsL := [(.int (1 : Int32)), (.int (0 : Int32))]) (rest := []) (lenOf pd10_1_1 rfl) rfl (by show 2 * 0 + _ ≤ _; exact Nat.le_of_eq rfl) (hb hby d10_37) (fun _ _ => ⟨rfl, e2, (by decide : 0 + 0 ≤ _), (by decide : 0 + 0 ≤ _)⟩)
  dsimp only [Pt.U, Pt.locs, Pt.cells, Pt.slots] at X3 l3 y3 z3 st3 hQ3
  subst l3 y3 z3
  obtain ⟨rfl, N3q, K3, G3_0, G3_1, G3_2, G3_3⟩ := hQ3
  have N3 := Fr.app N2 N3q
  refine goT st3 ?_
  show Go p.tables e below T3 (mkF m 40 #[.val (.ref c1), .val (.int (1 : Int32)), .val (.int (1 : Int32))] [(.ref a1)]) _
  refine go1 (fun _ => XS.goto X3.here hx rfl (pc0 := 40) (pc' := 44) rfl (hb hby d10_40) (by decide) (by decide)) ?_
  show Go p.tables e below T3 (mkF m 44 #[.val (.ref c1), .val (.int (1 : Int32)), .val (.int (1 : Int32))] [(.ref a1)]) _
  refine goR X3 (BodyLoose.notSynchronized Bd) (v := (some (.ref a1))) (fun h => by rw [Bd.returns] at h; cases h) (Q10_1 Z c1 a1 u xl0 f0 h0 n0) (fun fs hr => retOut X3 hx (t := (.object "com/example/carmine/carmine/Node")) (w := (.ref a1)) Bd.returns rfl (Or.inr (Or.inr (Or.inr (Or.inr ⟨rfl, rfl, rfl⟩)))) (hb hby d10_44) hr) (by decide) (by decide) ?_
  show Q10_1 Z c1 a1 u xl0 f0 h0 n0 _ T3.heap _
  exact ⟨rfl, N3, (((Keep.refl h0 [c1, a1]).wr W2 (Or.inl (List.mem_of_getElem? (i := 0) rfl))).trans K3 (allS (Or.inl (List.mem_of_getElem? (i := 0) rfl)) (allS (Or.inl (List.mem_of_getElem? (i := 1) rfl)) all0))), G3_0, G3_1, G3_2, G3_3⟩
theorem d10_24 : decode prog_9_method_2_code 24 = .ok (.iload_n 2, 1) := by decide +kernel
theorem d10_25 : decode prog_9_method_2_code 25 = .ok (.iconst 1, 1) := by decide +kernel
theorem d10_26 : decode prog_9_method_2_code 26 = .ok (.isub, 1) := by decide +kernel
theorem pn_10_2 : plainName "com/example/carmine/carmine/RedBlack$Chain" = true := by first | (simp [plainName, overriddenIn]; done) | decide +kernel
theorem pd10_2_0 : parseMethodDescriptor "(I)I" = some ⟨[.int], some .int⟩ := by decide +kernel
theorem pd10_2_1 : parseMethodDescriptor "(II)Lcom/example/carmine/carmine/Node;" = some ⟨[.int, .int], some (.object "com/example/carmine/carmine/Node")⟩ := by decide +kernel
theorem ef_10_2 (m : MethodId) (c1 : Addr) : entryFrame m #[(.ref c1), (.int (2 : Int32))] 3 = mkF m 0 #[.val (.ref c1), .val (.int (2 : Int32)), .unset] [] := by first | (simp [entryFrame, mkF, argsToLocals, Value.category]; done) | rfl
def Q10_2 (Z : State) (c1 : Addr) (a1 : Addr) (a2 : Addr) (u : Value) (xl0 : Value) (f0 : Int32) (xl1 : Value) (f1 : Int32) (h0 : Heap) (n0 : Nat) (v : Option Value) (h : Heap) (L : List Loc) : Prop := v = some (.ref a1) ∧ Fr n0 L ∧ Keep h0 h [c1, a1, a2] ∧ Exa Z h c1 "com/example/carmine/carmine/RedBlack$Chain" ∧ Exa Z h a1 "com/example/carmine/carmine/Node" ∧ Fld Z h a1 "com/example/carmine/carmine/Node" "left" "Lcom/example/carmine/carmine/Node;" .null ∧ Fld Z h a1 "com/example/carmine/carmine/Node" "right" "Lcom/example/carmine/carmine/Node;" (.ref a2)
set_option maxRecDepth 65536 in
set_option maxHeartbeats 40000000 in
theorem rm10_2 (l : Launch) (Z : State) (a0 : Array Value) (hw : ∀ d ∈ tables_1, d.before a0 Z = true) (ws : List Jvm.Cond) (c1 : Addr) (a1 : Addr) (a2 : Addr) (u : Value) (xl0 : Value) (f0 : Int32) (xl1 : Value) (f1 : Int32) (h0 : Heap) (n0 : Nat) (Z0 : n0 ≤ h0.size) (F_row_c1 : Fld Z h0 c1 "com/example/carmine/carmine/RedBlack$Chain" "row" "Lcom/example/carmine/carmine/RedBlack$Row;" .null) (F_items_c1 : Fld Z h0 c1 "com/example/carmine/carmine/RedBlack$Chain" "items" "Ljava/util/Iterator;" .null) (F_redDepth_c1 : Fld Z h0 c1 "com/example/carmine/carmine/RedBlack$Chain" "redDepth" "I" (.int (0 : Int32))) (F_next_c1 : Fld Z h0 c1 "com/example/carmine/carmine/RedBlack$Chain" "next" "Lcom/example/carmine/carmine/Node;" (.ref a1)) (E_c1 : Exa Z h0 c1 "com/example/carmine/carmine/RedBlack$Chain") (g_c1 : n0 ≤ c1) (F_left_a1 : Fld Z h0 a1 "com/example/carmine/carmine/Node" "left" "Lcom/example/carmine/carmine/Node;" xl0) (F_sizeAndColours_a1 : Fld Z h0 a1 "com/example/carmine/carmine/Node" "sizeAndColours" "I" (.int f0)) (F_right_a1 : Fld Z h0 a1 "com/example/carmine/carmine/Node" "right" "Lcom/example/carmine/carmine/Node;" (.ref a2)) (E_a1 : Exa Z h0 a1 "com/example/carmine/carmine/Node") (g_a1 : n0 ≤ a1) (nc0 : a1 ≠ c1) (F_left_a2 : Fld Z h0 a2 "com/example/carmine/carmine/Node" "left" "Lcom/example/carmine/carmine/Node;" xl1) (F_sizeAndColours_a2 : Fld Z h0 a2 "com/example/carmine/carmine/Node" "sizeAndColours" "I" (.int f1)) (F_right_a2 : Fld Z h0 a2 "com/example/carmine/carmine/Node" "right" "Lcom/example/carmine/carmine/Node;" u) (E_a2 : Exa Z h0 a2 "com/example/carmine/carmine/Node") (g_a2 : n0 ≤ a2) (nc1 : a2 ≠ c1) (hu : u.isRef = true) (n01 : a1 ≠ a2) :
    MetFree l (⟨"com/example/carmine/carmine/RedBlack$Chain", "tree", "(I)Lcom/example/carmine/carmine/Node;"⟩ : MethodName) (head1 (Jvm.Cond.code (⟨"com/example/carmine/carmine/RedBlack$Chain", "tree", "(I)Lcom/example/carmine/carmine/Node;"⟩ : MethodName) prog_9_method_2_code 3 (some (.object "com/example/carmine/carmine/Node")) :: ws) ({ frames := 3, cells := 0, slots := 0, locals := 46 } : Room)) (fun a U => a = #[(.ref c1), (.int (2 : Int32))] ∧ Z.Warmed39 U.vm ∧ U.heap = h0) (fun _ _ _ _ _ => True) (fun _ U o U' => ∃ v L, o = .returned v ∧ Q10_2 Z c1 a1 a2 u xl0 f0 xl1 f1 h0 n0 v U'.heap L ∧ FrameEnd U o U' L ({ frames := 3, cells := 0, slots := 0, locals := 46 } : Room).cells ({ frames := 3, cells := 0, slots := 0, locals := 46 } : Room).slots) := by
  refine MetFree.of_bodySF (plainFor_of_name pn_10_2) hisR ?_
  intro p e s m args below meth c s₁ Bd hml0 hP hK
  obtain ⟨rfl, hZ, hh⟩ := hP
  have hx := Bd.exec
  have hby := Bd.bytes
  have hml : c.maxLocals = 3 := hml0
  have hown : s.vm.findClass "com/example/carmine/carmine/RedBlack$Chain" = some m.cls := findClass_of_methodNamed Bd.named
  have hnm := (name_of_methodNamed Bd.named Bd.method).1
  have X0 : Stand p l e ({ frames := 3, cells := 0, slots := 0, locals := 46 } : Room) s m #[(.ref c1), (.int (2 : Int32))] below meth c s₁ [] 0 0 := Stand.of_body Bd
  have e0 : s₁.heap = h0 := by rw [← hh, Bd.state]; rfl
  have N0 := Fr.nil n0
  refine goB (ef_10_2 m c1) ?_
  show Go p.tables e below s₁ (mkF m 0 #[.val (.ref c1), .val (.int (2 : Int32)), .unset] []) _
  refine go1 (fun _ => XS.bipush X0.here hx rfl (hb hby d10_0)) ?_
  show Go p.tables e below s₁ (mkF m 2 #[.val (.ref c1), .val (.int (2 : Int32)), .unset] [(.int (32 : Int32))]) _
  refine go1 (fun _ => XS.iloadN X0.here hx rfl (hb hby d10_2) rfl) ?_
  show Go p.tables e below s₁ (mkF m 3 #[.val (.ref c1), .val (.int (2 : Int32)), .unset] [(.int (2 : Int32)), (.int (32 : Int32))]) _
  obtain ⟨_, _, ⟨T1, L1, k1, n1⟩, -, X1, ⟨Lc1, hQ1, l1, y1, z1⟩, st1⟩ := Jvm.LawKit.callS X0 hx (y := (⟨"java/lang/Integer", "numberOfLeadingZeros", "(I)I"⟩ : MethodName)) hown (mvT hZ (hw _ (List.mem_of_getElem? (i := 76) rfl))) (mvT hZ (hw _ (List.mem_of_getElem? (i := 77) rfl))) (mvT hZ (hw _ (List.mem_of_getElem? (i := 5) rfl))) (mvT hZ (hw _ (List.mem_of_getElem? (i := 78) rfl))) (by decide) (backOf (W := 1) (rm11_2 l Z a0 hw []  h0 n0 Z0 ) hZ (hw _ (List.mem_of_getElem? (i := 78) rfl)) (hw _ (List.mem_of_getElem? (i := 5) rfl)) (by decide) (by decide)) (g := (mkF m 3 #[.val (.ref c1), .val (.int (2 : Int32)), .unset] [(.int (2 : Int32)), (.int (32 : Int32))])) rfl (by rw [hml]; rfl) (argsL := [(.int (2 : Int32))]) (rest := [(.int (32 : Int32))]) (lenOf pd10_2_0 rfl) rfl (by show 2 * 0 + _ ≤ _; exact Nat.le_of_eq rfl) (hb hby d10_3) (fun _ _ => ⟨rfl, e0, (by decide : 0 + 0 ≤ _), (by decide : 0 + 0 ≤ _)⟩)
  dsimp only [Pt.U, Pt.locs, Pt.cells, Pt.slots] at X1 l1 y1 z1 st1 hQ1
  subst l1 y1 z1
  obtain ⟨rfl, N1q, e1⟩ := hQ1
  have N1 := Fr.app N0 N1q
  refine go1 st1 ?_
  show Go p.tables e below T1 (mkF m 6 #[.val (.ref c1), .val (.int (2 : Int32)), .unset] [(.int (30 : Int32)), (.int (32 : Int32))]) _
  refine go1 (fun _ => XS.isub X1.here hx rfl (hb hby d10_6) rfl) ?_
  show Go p.tables e below T1 (mkF m 7 #[.val (.ref c1), .val (.int (2 : Int32)), .unset] [(.int (2 : Int32))]) _
  refine go1 (fun _ => XS.istoreN X1.here hx rfl (hb hby d10_7) rfl (l' := #[.val (.ref c1), .val (.int (2 : Int32)), .val (.int (2 : Int32))]) rfl) ?_
  show Go p.tables e below T1 (mkF m 8 #[.val (.ref c1), .val (.int (2 : Int32)), .val (.int (2 : Int32))] []) _
  refine go1 (fun _ => XS.aloadN X1.here hx rfl (hb hby d10_8) rfl rfl) ?_
  show Go p.tables e below T1 (mkF m 9 #[.val (.ref c1), .val (.int (2 : Int32)), .val (.int (2 : Int32))] [(.ref c1)]) _
  refine go1 (fun _ => XS.iloadN X1.here hx rfl (hb hby d10_9) rfl) ?_
  show Go p.tables e below T1 (mkF m 10 #[.val (.ref c1), .val (.int (2 : Int32)), .val (.int (2 : Int32))] [(.int (2 : Int32)), (.ref c1)]) _
  refine go1 (fun _ => XS.i2l X1.here hx rfl (hb hby d10_10) rfl) ?_
  show Go p.tables e below T1 (mkF m 11 #[.val (.ref c1), .val (.int (2 : Int32)), .val (.int (2 : Int32))] [(.long (2 : Int64)), (.ref c1)]) _
  refine go1 (fun _ => XS.lconst X1.here hx rfl (hb hby d10_11)) ?_
  show Go p.tables e below T1 (mkF m 12 #[.val (.ref c1), .val (.int (2 : Int32)), .val (.int (2 : Int32))] [(.long (1 : Int64)), (.long (2 : Int64)), (.ref c1)]) _
  refine go1 (fun _ => XS.iloadN X1.here hx rfl (hb hby d10_12) rfl) ?_
  show Go p.tables e below T1 (mkF m 13 #[.val (.ref c1), .val (.int (2 : Int32)), .val (.int (2 : Int32))] [(.int (2 : Int32)), (.long (1 : Int64)), (.long (2 : Int64)), (.ref c1)]) _
  refine go1 (fun _ => XS.lshl X1.here hx rfl (hb hby d10_13) rfl) ?_
  show Go p.tables e below T1 (mkF m 14 #[.val (.ref c1), .val (.int (2 : Int32)), .val (.int (2 : Int32))] [(.long (4 : Int64)), (.long (2 : Int64)), (.ref c1)]) _
  refine go1 (fun _ => XS.lconst X1.here hx rfl (hb hby d10_14)) ?_
  show Go p.tables e below T1 (mkF m 15 #[.val (.ref c1), .val (.int (2 : Int32)), .val (.int (2 : Int32))] [(.long (1 : Int64)), (.long (4 : Int64)), (.long (2 : Int64)), (.ref c1)]) _
  refine go1 (fun _ => XS.lsub X1.here hx rfl (hb hby d10_15) rfl) ?_
  show Go p.tables e below T1 (mkF m 16 #[.val (.ref c1), .val (.int (2 : Int32)), .val (.int (2 : Int32))] [(.long (3 : Int64)), (.long (2 : Int64)), (.ref c1)]) _
  refine go1 (fun _ => XS.lcmp X1.here hx rfl (hb hby d10_16) rfl) ?_
  show Go p.tables e below T1 (mkF m 17 #[.val (.ref c1), .val (.int (2 : Int32)), .val (.int (2 : Int32))] [(.int (lcmpW (2 : Int64) (3 : Int64))), (.ref c1)]) _
  refine go1 (fun _ => XS.ifYes X1.here hx rfl (pc0 := 17) (pc' := 24) rfl (hb hby d10_17) rfl ((if0 _ _).trans (feq (mt (lw_eq _ _).mp (by decide : ¬ ((2 : Int64) = (3 : Int64))))).2) (by decide) (by decide)) ?_
  show Go p.tables e below T1 (mkF m 24 #[.val (.ref c1), .val (.int (2 : Int32)), .val (.int (2 : Int32))] [(.ref c1)]) _
  refine go1 (fun _ => XS.iloadN X1.here hx rfl (hb hby d10_24) rfl) ?_
  show Go p.tables e below T1 (mkF m 25 #[.val (.ref c1), .val (.int (2 : Int32)), .val (.int (2 : Int32))] [(.int (2 : Int32)), (.ref c1)]) _
  refine go1 (fun _ => XS.iconst X1.here hx rfl (hb hby d10_25)) ?_
  show Go p.tables e below T1 (mkF m 26 #[.val (.ref c1), .val (.int (2 : Int32)), .val (.int (2 : Int32))] [(.int (1 : Int32)), (.int (2 : Int32)), (.ref c1)]) _
  refine go1 (fun _ => XS.isub X1.here hx rfl (hb hby d10_26) rfl) ?_
  show Go p.tables e below T1 (mkF m 27 #[.val (.ref c1), .val (.int (2 : Int32)), .val (.int (2 : Int32))] [(.int (1 : Int32)), (.ref c1)]) _
  obtain ⟨T2, h2, X2, e2, W2, st2⟩ := putF X1 hx hZ hown (host := "") (Or.inl (hw _ (List.mem_of_getElem? (i := 79) rfl))) Via.refl e1 F_redDepth_c1 E_c1 (Or.inl (hw _ (List.mem_of_getElem? (i := 80) rfl))) (hw _ (List.mem_of_getElem? (i := 54) rfl)) (ty := .int) (by decide) rfl rfl (g := (mkF m 27 #[.val (.ref c1), .val (.int (2 : Int32)), .val (.int (2 : Int32))] [(.int (1 : Int32)), (.ref c1)])) rfl rfl (hb hby d10_27)
  refine go1 st2 ?_
  have Fw2 := F_redDepth_c1.same W2
  have N2 := Fr.snoc X2 N1 g_c1
  show Go p.tables e below T2 (mkF m 30 #[.val (.ref c1), .val (.int (2 : Int32)), .val (.int (2 : Int32))] []) _
  refine go1 (fun _ => XS.iloadN X2.here hx rfl (hb hby d10_30) rfl) ?_
  show Go p.tables e below T2 (mkF m 31 #[.val (.ref c1), .val (.int (2 : Int32)), .val (.int (2 : Int32))] [(.int (2 : Int32))]) _
  refine go1 (fun _ => XS.ifNo X2.here hx rfl (hb hby d10_31) rfl ((if0 _ _).trans (tlt (by decide : (0 : Int32) < (2 : Int32))).2.2.2)) ?_
  show Go p.tables e below T2 (mkF m 34 #[.val (.ref c1), .val (.int (2 : Int32)), .val (.int (2 : Int32))] []) _
  refine go1 (fun _ => XS.aloadN X2.here hx rfl (hb hby d10_34) rfl rfl) ?_
  show Go p.tables e below T2 (mkF m 35 #[.val (.ref c1), .val (.int (2 : Int32)), .val (.int (2 : Int32))] [(.ref c1)]) _
  refine go1 (fun _ => XS.iloadN X2.here hx rfl (hb hby d10_35) rfl) ?_
  show Go p.tables e below T2 (mkF m 36 #[.val (.ref c1), .val (.int (2 : Int32)), .val (.int (2 : Int32))] [(.int (2 : Int32)), (.ref c1)]) _
  refine go1 (fun _ => XS.iconst X2.here hx rfl (hb hby d10_36)) ?_
  show Go p.tables e below T2 (mkF m 37 #[.val (.ref c1), .val (.int (2 : Int32)), .val (.int (2 : Int32))] [(.int (0 : Int32)), (.int (2 : Int32)), (.ref c1)]) _
  obtain ⟨cq3, kq3, q3a, q3b, q3c⟩ := isOf hZ e2 (E_c1.wr W2)
  obtain ⟨_, _, ⟨T3, L3, k3, n3⟩, -, X3, ⟨Lc3, hQ3, l3, y3, z3⟩, st3⟩ := X2.virtualBack hx (y := (⟨"com/example/carmine/carmine/RedBlack$Chain", "subtree", "(II)Lcom/example/carmine/carmine/Node;"⟩ : MethodName)) (z := (⟨"com/example/carmine/carmine/RedBlack$Chain", "subtree", "(II)Lcom/example/carmine/carmine/Node;"⟩ : MethodName)) hown (mvT hZ (hw _ (List.mem_of_getElem? (i := 89) rfl))) (mvT hZ (hw _ (List.mem_of_getElem? (i := 90) rfl))) (notFace_of_selects (args := #[]) (mvT hZ (hw _ (List.mem_of_getElem? (i := 92) rfl)))) (mvT hZ (hw _ (List.mem_of_getElem? (i := 92) rfl))) (mvT hZ (hw _ (List.mem_of_getElem? (i := 91) rfl))) (by decide) (backOf (W := 0) (rm13_2 l Z a0 hw [] c1 a1 a2 u xl0 f0 xl1 f1 h2 n0 (Nat.le_trans Z0 (Keep.of_wr W2).1) (F_row_c1.other W2 (Or.inr (slot_ne (Or.inr (hw _ (List.mem_of_getElem? (i := 65) rfl))) (Or.inl (hw _ (List.mem_of_getElem? (i := 80) rfl))) (by decide) (t := (.object "com/example/carmine/carmine/RedBlack$Row")) (t' := .int) (by decide) (by decide)))) (F_items_c1.other W2 (Or.inr (slot_ne (Or.inr (hw _ (List.mem_of_getElem? (i := 67) rfl))) (Or.inl (hw _ (List.mem_of_getElem? (i := 80) rfl))) (by decide) (t := (.object "java/util/Iterator")) (t' := .int) (by decide) (by decide)))) Fw2 (F_next_c1.other W2 (Or.inr (slot_ne (Or.inl (hw _ (List.mem_of_getElem? (i := 63) rfl))) (Or.inl (hw _ (List.mem_of_getElem? (i := 80) rfl))) (by decide) (t := (.object "com/example/carmine/carmine/Node")) (t' := .int) (by decide) (by decide)))) (E_c1.wr W2) g_c1 (F_left_a1.other W2 (Or.inl nc0)) (F_sizeAndColours_a1.other W2 (Or.inl nc0)) (F_right_a1.other W2 (Or.inl nc0)) (E_a1.wr W2) g_a1 nc0 (F_left_a2.other W2 (Or.inl nc1)) (F_sizeAndColours_a2.other W2 (Or.inl nc1)) (F_right_a2.other W2 (Or.inl nc1)) (E_a2.wr W2) g_a2 nc1 hu n01) hZ (hw _ (List.mem_of_getElem? (i := 93) rfl)) (hw _ (List.mem_of_getElem? (i := 55) rfl)) (by decide) (by decide)) q3a q3c (g := (mkF m 37 #[.val (.ref c1), .val (.int (2 : Int32)), .val (.int (2 : Int32))] [(.int (0 : Int32)), (.int (2 : Int32)), (.ref c1)])) rfl (by rw [hml]; rfl) (Steps.refl _) (argsL := [(.int (2 : Int32)), (.int (0 : Int32))]) (rest := []) (lenOf pd10_2_1 rfl) rfl (by show 2 * 0 + _ ≤ _; exact Nat.le_of_eq rfl) (hb hby d10_37) (fun _ _ => ⟨rfl, e2, (by decide : 0 + 0 ≤ _), (by decide : 0 + 0 ≤ _)⟩)
  dsimp only [Pt.U, Pt.locs, Pt.cells, Pt.slots] at X3 l3 y3 z3 st3 hQ3
  subst l3 y3 z3
  obtain ⟨rfl, N3q, K3, G3_0, G3_1, G3_2, G3_3⟩ := hQ3
  have N3 := Fr.app N2 N3q
  refine goT st3 ?_
  show Go p.tables e below T3 (mkF m 40 #[.val (.ref c1), .val (.int (2 : Int32)), .val (.int (2 : Int32))] [(.ref a1)]) _
  refine go1 (fun _ => XS.goto X3.here hx rfl (pc0 := 40) (pc' := 44) rfl (hb hby d10_40) (by decide) (by decide)) ?_
  show Go p.tables e below T3 (mkF m 44 #[.val (.ref c1), .val (.int (2 : Int32)), .val (.int (2 : Int32))] [(.ref a1)]) _
  refine goR X3 (BodyLoose.notSynchronized Bd) (v := (some (.ref a1))) (fun h => by rw [Bd.returns] at h; cases h) (Q10_2 Z c1 a1 a2 u xl0 f0 xl1 f1 h0 n0) (fun fs hr => retOut X3 hx (t := (.object "com/example/carmine/carmine/Node")) (w := (.ref a1)) Bd.returns rfl (Or.inr (Or.inr (Or.inr (Or.inr ⟨rfl, rfl, rfl⟩)))) (hb hby d10_44) hr) (by decide) (by decide) ?_
  show Q10_2 Z c1 a1 a2 u xl0 f0 xl1 f1 h0 n0 _ T3.heap _
  exact ⟨rfl, N3, (((Keep.refl h0 [c1, a1, a2]).wr W2 (Or.inl (List.mem_of_getElem? (i := 0) rfl))).trans K3 (allS (Or.inl (List.mem_of_getElem? (i := 0) rfl)) (allS (Or.inl (List.mem_of_getElem? (i := 1) rfl)) (allS (Or.inl (List.mem_of_getElem? (i := 2) rfl)) all0)))), G3_0, G3_1, G3_2, G3_3⟩
theorem pn_10_3 : plainName "com/example/carmine/carmine/RedBlack$Chain" = true := by first | (simp [plainName, overriddenIn]; done) | decide +kernel
theorem pd10_3_0 : parseMethodDescriptor "(I)I" = some ⟨[.int], some .int⟩ := by decide +kernel
theorem pd10_3_1 : parseMethodDescriptor "(II)Lcom/example/carmine/carmine/Node;" = some ⟨[.int, .int], some (.object "com/example/carmine/carmine/Node")⟩ := by decide +kernel
theorem ef_10_3 (m : MethodId) (c1 : Addr) : entryFrame m #[(.ref c1), (.int (3 : Int32))] 3 = mkF m 0 #[.val (.ref c1), .val (.int (3 : Int32)), .unset] [] := by first | (simp [entryFrame, mkF, argsToLocals, Value.category]; done) | rfl
def Q10_3 (Z : State) (c1 : Addr) (a1 : Addr) (a2 : Addr) (a3 : Addr) (u : Value) (xl0 : Value) (f0 : Int32) (xl1 : Value) (f1 : Int32) (xl2 : Value) (f2 : Int32) (h0 : Heap) (n0 : Nat) (v : Option Value) (h : Heap) (L : List Loc) : Prop := v = some (.ref a2) ∧ Fr n0 L ∧ Keep h0 h [c1, a1, a2, a3] ∧ Exa Z h c1 "com/example/carmine/carmine/RedBlack$Chain" ∧ Exa Z h a2 "com/example/carmine/carmine/Node" ∧ Fld Z h a2 "com/example/carmine/carmine/Node" "left" "Lcom/example/carmine/carmine/Node;" (.ref a1) ∧ Fld Z h a2 "com/example/carmine/carmine/Node" "right" "Lcom/example/carmine/carmine/Node;" (.ref a3)
set_option maxRecDepth 65536 in
set_option maxHeartbeats 40000000 in
theorem rm10_3 (l : Launch) (Z : State) (a0 : Array Value) (hw : ∀ d ∈ tables_1, d.before a0 Z = true) (ws : List Jvm.Cond) (c1 : Addr) (a1 : Addr) (a2 : Addr) (a3 : Addr) (u : Value) (xl0 : Value) (f0 : Int32) (xl1 : Value) (f1 : Int32) (xl2 : Value) (f2 : Int32) (h0 : Heap) (n0 : Nat) (Z0 : n0 ≤ h0.size) (F_row_c1 : Fld Z h0 c1 "com/example/carmine/carmine/RedBlack$Chain" "row" "Lcom/example/carmine/carmine/RedBlack$Row;" .null) (F_items_c1 : Fld Z h0 c1 "com/example/carmine/carmine/RedBlack$Chain" "items" "Ljava/util/Iterator;" .null) (F_redDepth_c1 : Fld Z h0 c1 "com/example/carmine/carmine/RedBlack$Chain" "redDepth" "I" (.int (0 : Int32))) (F_next_c1 : Fld Z h0 c1 "com/example/carmine/carmine/RedBlack$Chain" "next" "Lcom/example/carmine/carmine/Node;" (.ref a1)) (E_c1 : Exa Z h0 c1 "com/example/carmine/carmine/RedBlack$Chain") (g_c1 : n0 ≤ c1) (F_left_a1 : Fld Z h0 a1 "com/example/carmine/carmine/Node" "left" "Lcom/example/carmine/carmine/Node;" xl0) (F_sizeAndColours_a1 : Fld Z h0 a1 "com/example/carmine/carmine/Node" "sizeAndColours" "I" (.int f0)) (F_right_a1 : Fld Z h0 a1 "com/example/carmine/carmine/Node" "right" "Lcom/example/carmine/carmine/Node;" (.ref a2)) (E_a1 : Exa Z h0 a1 "com/example/carmine/carmine/Node") (g_a1 : n0 ≤ a1) (nc0 : a1 ≠ c1) (F_left_a2 : Fld Z h0 a2 "com/example/carmine/carmine/Node" "left" "Lcom/example/carmine/carmine/Node;" xl1) (F_sizeAndColours_a2 : Fld Z h0 a2 "com/example/carmine/carmine/Node" "sizeAndColours" "I" (.int f1)) (F_right_a2 : Fld Z h0 a2 "com/example/carmine/carmine/Node" "right" "Lcom/example/carmine/carmine/Node;" (.ref a3)) (E_a2 : Exa Z h0 a2 "com/example/carmine/carmine/Node") (g_a2 : n0 ≤ a2) (nc1 : a2 ≠ c1) (F_left_a3 : Fld Z h0 a3 "com/example/carmine/carmine/Node" "left" "Lcom/example/carmine/carmine/Node;" xl2) (F_sizeAndColours_a3 : Fld Z h0 a3 "com/example/carmine/carmine/Node" "sizeAndColours" "I" (.int f2)) (F_right_a3 : Fld Z h0 a3 "com/example/carmine/carmine/Node" "right" "Lcom/example/carmine/carmine/Node;" u) (E_a3 : Exa Z h0 a3 "com/example/carmine/carmine/Node") (g_a3 : n0 ≤ a3) (nc2 : a3 ≠ c1) (hu : u.isRef = true) (n01 : a1 ≠ a2) (n02 : a1 ≠ a3) (n12 : a2 ≠ a3) :
    MetFree l (⟨"com/example/carmine/carmine/RedBlack$Chain", "tree", "(I)Lcom/example/carmine/carmine/Node;"⟩ : MethodName) (head1 (Jvm.Cond.code (⟨"com/example/carmine/carmine/RedBlack$Chain", "tree", "(I)Lcom/example/carmine/carmine/Node;"⟩ : MethodName) prog_9_method_2_code 3 (some (.object "com/example/carmine/carmine/Node")) :: ws) ({ frames := 3, cells := 0, slots := 0, locals := 46 } : Room)) (fun a U => a = #[(.ref c1), (.int (3 : Int32))] ∧ Z.Warmed39 U.vm ∧ U.heap = h0) (fun _ _ _ _ _ => True) (fun _ U o U' => ∃ v L, o = .returned v ∧ Q10_3 Z c1 a1 a2 a3 u xl0 f0 xl1 f1 xl2 f2 h0 n0 v U'.heap L ∧ FrameEnd U o U' L ({ frames := 3, cells := 0, slots := 0, locals := 46 } : Room).cells ({ frames := 3, cells := 0, slots := 0, locals := 46 } : Room).slots) := by
  refine MetFree.of_bodySF (plainFor_of_name pn_10_3) hisR ?_
  intro p e s m args below meth c s₁ Bd hml0 hP hK
  obtain ⟨rfl, hZ, hh⟩ := hP
  have hx := Bd.exec
  have hby := Bd.bytes
  have hml : c.maxLocals = 3 := hml0
  have hown : s.vm.findClass "com/example/carmine/carmine/RedBlack$Chain" = some m.cls := findClass_of_methodNamed Bd.named
  have hnm := (name_of_methodNamed Bd.named Bd.method).1
  have X0 : Stand p l e ({ frames := 3, cells := 0, slots := 0, locals := 46 } : Room) s m #[(.ref c1), (.int (3 : Int32))] below meth c s₁ [] 0 0 := Stand.of_body Bd
  have e0 : s₁.heap = h0 := by rw [← hh, Bd.state]; rfl
  have N0 := Fr.nil n0
  refine goB (ef_10_3 m c1) ?_
  show Go p.tables e below s₁ (mkF m 0 #[.val (.ref c1), .val (.int (3 : Int32)), .unset] []) _
  refine go1 (fun _ => XS.bipush X0.here hx rfl (hb hby d10_0)) ?_
  show Go p.tables e below s₁ (mkF m 2 #[.val (.ref c1), .val (.int (3 : Int32)), .unset] [(.int (32 : Int32))]) _
  refine go1 (fun _ => XS.iloadN X0.here hx rfl (hb hby d10_2) rfl) ?_
  show Go p.tables e below s₁ (mkF m 3 #[.val (.ref c1), .val (.int (3 : Int32)), .unset] [(.int (3 : Int32)), (.int (32 : Int32))]) _
  obtain ⟨_, _, ⟨T1, L1, k1, n1⟩, -, X1, ⟨Lc1, hQ1, l1, y1, z1⟩, st1⟩ := Jvm.LawKit.callS X0 hx (y := (⟨"java/lang/Integer", "numberOfLeadingZeros", "(I)I"⟩ : MethodName)) hown (mvT hZ (hw _ (List.mem_of_getElem? (i := 76) rfl))) (mvT hZ (hw _ (List.mem_of_getElem? (i := 77) rfl))) (mvT hZ (hw _ (List.mem_of_getElem? (i := 5) rfl))) (mvT hZ (hw _ (List.mem_of_getElem? (i := 78) rfl))) (by decide) (backOf (W := 1) (rm11_3 l Z a0 hw []  h0 n0 Z0 ) hZ (hw _ (List.mem_of_getElem? (i := 78) rfl)) (hw _ (List.mem_of_getElem? (i := 5) rfl)) (by decide) (by decide)) (g := (mkF m 3 #[.val (.ref c1), .val (.int (3 : Int32)), .unset] [(.int (3 : Int32)), (.int (32 : Int32))])) rfl (by rw [hml]; rfl) (argsL := [(.int (3 : Int32))]) (rest := [(.int (32 : Int32))]) (lenOf pd10_3_0 rfl) rfl (by show 2 * 0 + _ ≤ _; exact Nat.le_of_eq rfl) (hb hby d10_3) (fun _ _ => ⟨rfl, e0, (by decide : 0 + 0 ≤ _), (by decide : 0 + 0 ≤ _)⟩)
  dsimp only [Pt.U, Pt.locs, Pt.cells, Pt.slots] at X1 l1 y1 z1 st1 hQ1
  subst l1 y1 z1
  obtain ⟨rfl, N1q, e1⟩ := hQ1
  have N1 := Fr.app N0 N1q
  refine go1 st1 ?_
  show Go p.tables e below T1 (mkF m 6 #[.val (.ref c1), .val (.int (3 : Int32)), .unset] [(.int (30 : Int32)), (.int (32 : Int32))]) _
  refine go1 (fun _ => XS.isub X1.here hx rfl (hb hby d10_6) rfl) ?_
  show Go p.tables e below T1 (mkF m 7 #[.val (.ref c1), .val (.int (3 : Int32)), .unset] [(.int (2 : Int32))]) _
  refine go1 (fun _ => XS.istoreN X1.here hx rfl (hb hby d10_7) rfl (l' := #[.val (.ref c1), .val (.int (3 : Int32)), .val (.int (2 : Int32))]) rfl) ?_
  show Go p.tables e below T1 (mkF m 8 #[.val (.ref c1), .val (.int (3 : Int32)), .val (.int (2 : Int32))] []) _
  refine go1 (fun _ => XS.aloadN X1.here hx rfl (hb hby d10_8) rfl rfl) ?_
  show Go p.tables e below T1 (mkF m 9 #[.val (.ref c1), .val (.int (3 : Int32)), .val (.int (2 : Int32))] [(.ref c1)]) _
  refine go1 (fun _ => XS.iloadN X1.here hx rfl (hb hby d10_9) rfl) ?_
  show Go p.tables e below T1 (mkF m 10 #[.val (.ref c1), .val (.int (3 : Int32)), .val (.int (2 : Int32))] [(.int (3 : Int32)), (.ref c1)]) _
  refine go1 (fun _ => XS.i2l X1.here hx rfl (hb hby d10_10) rfl) ?_
  show Go p.tables e below T1 (mkF m 11 #[.val (.ref c1), .val (.int (3 : Int32)), .val (.int (2 : Int32))] [(.long (3 : Int64)), (.ref c1)]) _
  refine go1 (fun _ => XS.lconst X1.here hx rfl (hb hby d10_11)) ?_
  show Go p.tables e below T1 (mkF m 12 #[.val (.ref c1), .val (.int (3 : Int32)), .val (.int (2 : Int32))] [(.long (1 : Int64)), (.long (3 : Int64)), (.ref c1)]) _
  refine go1 (fun _ => XS.iloadN X1.here hx rfl (hb hby d10_12) rfl) ?_
  show Go p.tables e below T1 (mkF m 13 #[.val (.ref c1), .val (.int (3 : Int32)), .val (.int (2 : Int32))] [(.int (2 : Int32)), (.long (1 : Int64)), (.long (3 : Int64)), (.ref c1)]) _
  refine go1 (fun _ => XS.lshl X1.here hx rfl (hb hby d10_13) rfl) ?_
  show Go p.tables e below T1 (mkF m 14 #[.val (.ref c1), .val (.int (3 : Int32)), .val (.int (2 : Int32))] [(.long (4 : Int64)), (.long (3 : Int64)), (.ref c1)]) _
  refine go1 (fun _ => XS.lconst X1.here hx rfl (hb hby d10_14)) ?_
  show Go p.tables e below T1 (mkF m 15 #[.val (.ref c1), .val (.int (3 : Int32)), .val (.int (2 : Int32))] [(.long (1 : Int64)), (.long (4 : Int64)), (.long (3 : Int64)), (.ref c1)]) _
  refine go1 (fun _ => XS.lsub X1.here hx rfl (hb hby d10_15) rfl) ?_
  show Go p.tables e below T1 (mkF m 16 #[.val (.ref c1), .val (.int (3 : Int32)), .val (.int (2 : Int32))] [(.long (3 : Int64)), (.long (3 : Int64)), (.ref c1)]) _
  refine go1 (fun _ => XS.lcmp X1.here hx rfl (hb hby d10_16) rfl) ?_
  show Go p.tables e below T1 (mkF m 17 #[.val (.ref c1), .val (.int (3 : Int32)), .val (.int (2 : Int32))] [(.int (lcmpW (3 : Int64) (3 : Int64))), (.ref c1)]) _
  refine go1 (fun _ => XS.ifNo X1.here hx rfl (hb hby d10_17) rfl ((if0 _ _).trans (teq ((lw_eq _ _).mpr (by decide : (3 : Int64) = (3 : Int64)))).2)) ?_
  show Go p.tables e below T1 (mkF m 20 #[.val (.ref c1), .val (.int (3 : Int32)), .val (.int (2 : Int32))] [(.ref c1)]) _
  refine go1 (fun _ => XS.iconst X1.here hx rfl (hb hby d10_20)) ?_
  show Go p.tables e below T1 (mkF m 21 #[.val (.ref c1), .val (.int (3 : Int32)), .val (.int (2 : Int32))] [(.int (-1 : Int32)), (.ref c1)]) _
  refine go1 (fun _ => XS.goto X1.here hx rfl (pc0 := 21) (pc' := 27) rfl (hb hby d10_21) (by decide) (by decide)) ?_
  show Go p.tables e below T1 (mkF m 27 #[.val (.ref c1), .val (.int (3 : Int32)), .val (.int (2 : Int32))] [(.int (-1 : Int32)), (.ref c1)]) _
  obtain ⟨T2, h2, X2, e2, W2, st2⟩ := putF X1 hx hZ hown (host := "") (Or.inl (hw _ (List.mem_of_getElem? (i := 79) rfl))) Via.refl e1 F_redDepth_c1 E_c1 (Or.inl (hw _ (List.mem_of_getElem? (i := 80) rfl))) (hw _ (List.mem_of_getElem? (i := 54) rfl)) (ty := .int) (by decide) rfl rfl (g := (mkF m 27 #[.val (.ref c1), .val (.int (3 : Int32)), .val (.int (2 : Int32))] [(.int (-1 : Int32)), (.ref c1)])) rfl rfl (hb hby d10_27)
  refine go1 st2 ?_
  have Fw2 := F_redDepth_c1.same W2
  have N2 := Fr.snoc X2 N1 g_c1
  show Go p.tables e below T2 (mkF m 30 #[.val (.ref c1), .val (.int (3 : Int32)), .val (.int (2 : Int32))] []) _
  refine go1 (fun _ => XS.iloadN X2.here hx rfl (hb hby d10_30) rfl) ?_
  show Go p.tables e below T2 (mkF m 31 #[.val (.ref c1), .val (.int (3 : Int32)), .val (.int (2 : Int32))] [(.int (3 : Int32))]) _
  refine go1 (fun _ => XS.ifNo X2.here hx rfl (hb hby d10_31) rfl ((if0 _ _).trans (tlt (by decide : (0 : Int32) < (3 : Int32))).2.2.2)) ?_
  show Go p.tables e below T2 (mkF m 34 #[.val (.ref c1), .val (.int (3 : Int32)), .val (.int (2 : Int32))] []) _
  refine go1 (fun _ => XS.aloadN X2.here hx rfl (hb hby d10_34) rfl rfl) ?_
  show Go p.tables e below T2 (mkF m 35 #[.val (.ref c1), .val (.int (3 : Int32)), .val (.int (2 : Int32))] [(.ref c1)]) _
  refine go1 (fun _ => XS.iloadN X2.here hx rfl (hb hby d10_35) rfl) ?_
  show Go p.tables e below T2 (mkF m 36 #[.val (.ref c1), .val (.int (3 : Int32)), .val (.int (2 : Int32))] [(.int (3 : Int32)), (.ref c1)]) _
  refine go1 (fun _ => XS.iconst X2.here hx rfl (hb hby d10_36)) ?_
  show Go p.tables e below T2 (mkF m 37 #[.val (.ref c1), .val (.int (3 : Int32)), .val (.int (2 : Int32))] [(.int (0 : Int32)), (.int (3 : Int32)), (.ref c1)]) _
  obtain ⟨cq3, kq3, q3a, q3b, q3c⟩ := isOf hZ e2 (E_c1.wr W2)
  obtain ⟨_, _, ⟨T3, L3, k3, n3⟩, -, X3, ⟨Lc3, hQ3, l3, y3, z3⟩, st3⟩ := X2.virtualBack hx (y := (⟨"com/example/carmine/carmine/RedBlack$Chain", "subtree", "(II)Lcom/example/carmine/carmine/Node;"⟩ : MethodName)) (z := (⟨"com/example/carmine/carmine/RedBlack$Chain", "subtree", "(II)Lcom/example/carmine/carmine/Node;"⟩ : MethodName)) hown (mvT hZ (hw _ (List.mem_of_getElem? (i := 89) rfl))) (mvT hZ (hw _ (List.mem_of_getElem? (i := 90) rfl))) (notFace_of_selects (args := #[]) (mvT hZ (hw _ (List.mem_of_getElem? (i := 92) rfl)))) (mvT hZ (hw _ (List.mem_of_getElem? (i := 92) rfl))) (mvT hZ (hw _ (List.mem_of_getElem? (i := 91) rfl))) (by decide) (backOf (W := 0) (rm13_3 l Z a0 hw [] c1 a1 a2 a3 u xl0 f0 xl1 f1 xl2 f2 h2 n0 (Nat.le_trans Z0 (Keep.of_wr W2).1) (F_row_c1.other W2 (Or.inr (slot_ne (Or.inr (hw _ (List.mem_of_getElem? (i := 65) rfl))) (Or.inl (hw _ (List.mem_of_getElem? (i := 80) rfl))) (by decide) (t := (.object "com/example/carmine/carmine/RedBlack$Row")) (t' := .int) (by decide) (by decide)))) (F_items_c1.other W2 (Or.inr (slot_ne (Or.inr (hw _ (List.mem_of_getElem? (i := 67) rfl))) (Or.inl (hw _ (List.mem_of_getElem? (i := 80) rfl))) (by decide) (t := (.object "java/util/Iterator")) (t' := .int) (by decide) (by decide)))) Fw2 (F_next_c1.other W2 (Or.inr (slot_ne (Or.inl (hw _ (List.mem_of_getElem? (i := 63) rfl))) (Or.inl (hw _ (List.mem_of_getElem? (i := 80) rfl))) (by decide) (t := (.object "com/example/carmine/carmine/Node")) (t' := .int) (by decide) (by decide)))) (E_c1.wr W2) g_c1 (F_left_a1.other W2 (Or.inl nc0)) (F_sizeAndColours_a1.other W2 (Or.inl nc0)) (F_right_a1.other W2 (Or.inl nc0)) (E_a1.wr W2) g_a1 nc0 (F_left_a2.other W2 (Or.inl nc1)) (F_sizeAndColours_a2.other W2 (Or.inl nc1)) (F_right_a2.other W2 (Or.inl nc1)) (E_a2.wr W2) g_a2 nc1 (F_left_a3.other W2 (Or.inl nc2)) (F_sizeAndColours_a3.other W2 (Or.inl nc2)) (F_right_a3.other W2 (Or.inl nc2)) (E_a3.wr W2) g_a3 nc2 hu n01 n02 n12) hZ (hw _ (List.mem_of_getElem? (i := 93) rfl)) (hw _ (List.mem_of_getElem? (i := 55) rfl)) (by decide) (by decide)) q3a q3c (g := (mkF m 37 #[.val (.ref c1), .val (.int (3 : Int32)), .val (.int (2 : Int32))] [(.int (0 : Int32)), (.int (3 : Int32)), (.ref c1)])) rfl (by rw [hml]; rfl) (Steps.refl _) (argsL := [(.int (3 : Int32)), (.int (0 : Int32))]) (rest := []) (lenOf pd10_3_1 rfl) rfl (by show 2 * 0 + _ ≤ _; exact Nat.le_of_eq rfl) (hb hby d10_37) (fun _ _ => ⟨rfl, e2, (by decide : 0 + 0 ≤ _), (by decide : 0 + 0 ≤ _)⟩)
  dsimp only [Pt.U, Pt.locs, Pt.cells, Pt.slots] at X3 l3 y3 z3 st3 hQ3
  subst l3 y3 z3
  obtain ⟨rfl, N3q, K3, G3_0, G3_1, G3_2, G3_3⟩ := hQ3
  have N3 := Fr.app N2 N3q
  refine goT st3 ?_
  show Go p.tables e below T3 (mkF m 40 #[.val (.ref c1), .val (.int (3 : Int32)), .val (.int (2 : Int32))] [(.ref a2)]) _
  refine go1 (fun _ => XS.goto X3.here hx rfl (pc0 := 40) (pc' := 44) rfl (hb hby d10_40) (by decide) (by decide)) ?_
  show Go p.tables e below T3 (mkF m 44 #[.val (.ref c1), .val (.int (3 : Int32)), .val (.int (2 : Int32))] [(.ref a2)]) _
  refine goR X3 (BodyLoose.notSynchronized Bd) (v := (some (.ref a2))) (fun h => by rw [Bd.returns] at h; cases h) (Q10_3 Z c1 a1 a2 a3 u xl0 f0 xl1 f1 xl2 f2 h0 n0) (fun fs hr => retOut X3 hx (t := (.object "com/example/carmine/carmine/Node")) (w := (.ref a2)) Bd.returns rfl (Or.inr (Or.inr (Or.inr (Or.inr ⟨rfl, rfl, rfl⟩)))) (hb hby d10_44) hr) (by decide) (by decide) ?_
  show Q10_3 Z c1 a1 a2 a3 u xl0 f0 xl1 f1 xl2 f2 h0 n0 _ T3.heap _
  exact ⟨rfl, N3, (((Keep.refl h0 [c1, a1, a2, a3]).wr W2 (Or.inl (List.mem_of_getElem? (i := 0) rfl))).trans K3 (allS (Or.inl (List.mem_of_getElem? (i := 0) rfl)) (allS (Or.inl (List.mem_of_getElem? (i := 1) rfl)) (allS (Or.inl (List.mem_of_getElem? (i := 2) rfl)) (allS (Or.inl (List.mem_of_getElem? (i := 3) rfl)) all0))))), G3_0, G3_1, G3_2, G3_3⟩
theorem d8_0 : decode prog_8_method_10_code 0 = .ok (.new 163, 3) := by decide +kernel
theorem d8_3 : decode prog_8_method_10_code 3 = .ok (.dup, 1) := by decide +kernel
theorem d8_4 : decode prog_8_method_10_code 4 = .ok (.aload_n 0, 1) := by decide +kernel
theorem d8_5 : decode prog_8_method_10_code 5 = .ok (.getfield 165, 3) := by decide +kernel
theorem d8_8 : decode prog_8_method_10_code 8 = .ok (.aconst_null, 1) := by decide +kernel
theorem d8_9 : decode prog_8_method_10_code 9 = .ok (.aconst_null, 1) := by decide +kernel
theorem d8_10 : decode prog_8_method_10_code 10 = .ok (.aconst_null, 1) := by decide +kernel
theorem d8_11 : decode prog_8_method_10_code 11 = .ok (.invokespecial 170, 3) := by decide +kernel
theorem d8_14 : decode prog_8_method_10_code 14 = .ok (.aload_n 0, 1) := by decide +kernel
theorem d8_15 : decode prog_8_method_10_code 15 = .ok (.getfield 173, 3) := by decide +kernel
theorem d8_18 : decode prog_8_method_10_code 18 = .ok (.invokevirtual 175, 3) := by decide +kernel
theorem d8_21 : decode prog_8_method_10_code 21 = .ok (.areturn, 1) := by decide +kernel
theorem pn_8_0 : plainName "com/example/carmine/carmine/RedBlack" = true := by first | (simp [plainName, overriddenIn]; done) | decide +kernel
theorem pd8_0_0 : parseMethodDescriptor "(Lcom/example/carmine/carmine/Node;Lcom/example/carmine/carmine/RedBlack$Row;Ljava/util/Iterator;Ljava/util/function/Function;)V" = some ⟨[(.object "com/example/carmine/carmine/Node"), (.object "com/example/carmine/carmine/RedBlack$Row"), (.object "java/util/Iterator"), (.object "java/util/function/Function")], none⟩ := by decide +kernel
theorem pd8_0_1 : parseMethodDescriptor "(I)Lcom/example/carmine/carmine/Node;" = some ⟨[.int], some (.object "com/example/carmine/carmine/Node")⟩ := by decide +kernel
theorem ef_8_0 (m : MethodId) (l1 : Addr) : entryFrame m #[(.ref l1)] 1 = mkF m 0 #[.val (.ref l1)] [] := by first | (simp [entryFrame, mkF, argsToLocals, Value.category]; done) | rfl
def Q8_0 (Z : State) (l1 : Addr) (h0 : Heap) (n0 : Nat) (v : Option Value) (h : Heap) (L : List Loc) : Prop := v = some .null ∧ Fr n0 L ∧ Keep h0 h []
set_option maxRecDepth 65536 in
set_option maxHeartbeats 40000000 in
theorem rm8_0 (l : Launch) (Z : State) (a0 : Array Value) (hw : ∀ d ∈ tables_1, d.before a0 Z = true) (ws : List Jvm.Cond) (l1 : Addr) (h0 : Heap) (n0 : Nat) (Z0 : n0 ≤ h0.size) (F_first_l1 : Fld Z h0 l1 "com/example/carmine/carmine/RedBlack$Links" "first" "Lcom/example/carmine/carmine/Node;" .null) (F_size_l1 : Fld Z h0 l1 "com/example/carmine/carmine/RedBlack$Links" "size" "I" (.int (0 : Int32))) (E_l1 : Exa Z h0 l1 "com/example/carmine/carmine/RedBlack$Links") :
    MetFree l (⟨"com/example/carmine/carmine/RedBlack", "build", "(Lcom/example/carmine/carmine/RedBlack$Links;)Lcom/example/carmine/carmine/Node;"⟩ : MethodName) (head1 (Jvm.Cond.code (⟨"com/example/carmine/carmine/RedBlack", "build", "(Lcom/example/carmine/carmine/RedBlack$Links;)Lcom/example/carmine/carmine/Node;"⟩ : MethodName) prog_8_method_10_code 1 (some (.object "com/example/carmine/carmine/Node")) :: ws) ({ frames := 2, cells := 1, slots := 6, locals := 29 } : Room)) (fun a U => a = #[(.ref l1)] ∧ Z.Warmed39 U.vm ∧ U.heap = h0) (fun _ _ _ _ _ => True) (fun _ U o U' => ∃ v L, o = .returned v ∧ Q8_0 Z l1 h0 n0 v U'.heap L ∧ FrameEnd U o U' L ({ frames := 2, cells := 1, slots := 6, locals := 29 } : Room).cells ({ frames := 2, cells := 1, slots := 6, locals := 29 } : Room).slots) := by
  refine MetFree.of_bodySF (plainFor_of_name pn_8_0) hisR ?_
  intro p e s m args below meth c s₁ Bd hml0 hP hK
  obtain ⟨rfl, hZ, hh⟩ := hP
  have hx := Bd.exec
  have hby := Bd.bytes
  have hml : c.maxLocals = 1 := hml0
  have hown : s.vm.findClass "com/example/carmine/carmine/RedBlack" = some m.cls := findClass_of_methodNamed Bd.named
  have hnm := (name_of_methodNamed Bd.named Bd.method).1
  have X0 : Stand p l e ({ frames := 2, cells := 1, slots := 6, locals := 29 } : Room) s m #[(.ref l1)] below meth c s₁ [] 0 0 := Stand.of_body Bd
  have e0 : s₁.heap = h0 := by rw [← hh, Bd.state]; rfl
  have N0 := Fr.nil n0
  refine goB (ef_8_0 m l1) ?_
  show Go p.tables e below s₁ (mkF m 0 #[.val (.ref l1)] []) _
  obtain ⟨T1, h1, X1, e1, E1, A1, D1, -, st1⟩ := newO X0 hx hZ hown (hw _ (List.mem_of_getElem? (i := 53) rfl)) (hw _ (List.mem_of_getElem? (i := 54) rfl)) (hw _ (List.mem_of_getElem? (i := 55) rfl)) e0 (g := (mkF m 0 #[.val (.ref l1)] [])) rfl (hb hby d8_0) (by decide) (by decide)
  obtain ⟨b1, g1⟩ : ∃ z, z = h0.size := ⟨_, rfl⟩
  rw [← g1] at A1 D1 st1
  have g_b1 : n0 ≤ b1 := Nat.le_trans Z0 (Nat.le_of_eq g1.symm)
  have F_next_b1 : Fld Z h1 b1 "com/example/carmine/carmine/RedBlack$Chain" "next" "Lcom/example/carmine/carmine/Node;" .null := D1 (Or.inl (hw _ (List.mem_of_getElem? (i := 63) rfl))) (ty := (.object "com/example/carmine/carmine/Node")) (by decide)
  have F_row_b1 : Fld Z h1 b1 "com/example/carmine/carmine/RedBlack$Chain" "row" "Lcom/example/carmine/carmine/RedBlack$Row;" .null := D1 (Or.inr (hw _ (List.mem_of_getElem? (i := 65) rfl))) (ty := (.object "com/example/carmine/carmine/RedBlack$Row")) (by decide)
  have F_items_b1 : Fld Z h1 b1 "com/example/carmine/carmine/RedBlack$Chain" "items" "Ljava/util/Iterator;" .null := D1 (Or.inr (hw _ (List.mem_of_getElem? (i := 67) rfl))) (ty := (.object "java/util/Iterator")) (by decide)
  have F_maker_b1 : Fld Z h1 b1 "com/example/carmine/carmine/RedBlack$Chain" "maker" "Ljava/util/function/Function;" .null := D1 (Or.inr (hw _ (List.mem_of_getElem? (i := 69) rfl))) (ty := (.object "java/util/function/Function")) (by decide)
  have F_redDepth_b1 : Fld Z h1 b1 "com/example/carmine/carmine/RedBlack$Chain" "redDepth" "I" (.int (0 : Int32)) := D1 (Or.inl (hw _ (List.mem_of_getElem? (i := 80) rfl))) (ty := .int) (by decide)
  have F_at_b1 : Fld Z h1 b1 "com/example/carmine/carmine/RedBlack$Chain" "at" "I" (.int (0 : Int32)) := D1 (Or.inl (hw _ (List.mem_of_getElem? (i := 128) rfl))) (ty := .int) (by decide)
  refine go1 st1 ?_
  show Go p.tables e below T1 (mkF m 3 #[.val (.ref l1)] [(.ref b1)]) _
  refine go1 (fun _ => XS.dup X1.here hx rfl (hb hby d8_3) rfl rfl) ?_
  show Go p.tables e below T1 (mkF m 4 #[.val (.ref l1)] [(.ref b1), (.ref b1)]) _
  refine go1 (fun _ => XS.aloadN X1.here hx rfl (hb hby d8_4) rfl rfl) ?_
  show Go p.tables e below T1 (mkF m 5 #[.val (.ref l1)] [(.ref l1), (.ref b1), (.ref b1)]) _
  obtain ⟨T2, X2, e2, st2⟩ := getFR X1 hx hZ hown (hw _ (List.mem_of_getElem? (i := 56) rfl)) e1 (F_first_l1.ext E1) (g := (mkF m 5 #[.val (.ref l1)] [(.ref l1), (.ref b1), (.ref b1)])) rfl rfl (hb hby d8_5)
  refine go1 st2 ?_
  show Go p.tables e below T2 (mkF m 8 #[.val (.ref l1)] [.null, (.ref b1), (.ref b1)]) _
  refine go1 (fun _ => XS.aconstNull X2.here hx rfl (hb hby d8_8)) ?_
  show Go p.tables e below T2 (mkF m 9 #[.val (.ref l1)] [.null, .null, (.ref b1), (.ref b1)]) _
  refine go1 (fun _ => XS.aconstNull X2.here hx rfl (hb hby d8_9)) ?_
  show Go p.tables e below T2 (mkF m 10 #[.val (.ref l1)] [.null, .null, .null, (.ref b1), (.ref b1)]) _
  refine go1 (fun _ => XS.aconstNull X2.here hx rfl (hb hby d8_10)) ?_
  show Go p.tables e below T2 (mkF m 11 #[.val (.ref l1)] [.null, .null, .null, .null, (.ref b1), (.ref b1)]) _
  obtain ⟨_, _, ⟨T3, L3, k3, n3⟩, -, X3, ⟨Lc3, hQ3, l3, y3, z3⟩, st3⟩ := X2.specialBack hx (y := (⟨"com/example/carmine/carmine/RedBlack$Chain", "<init>", "(Lcom/example/carmine/carmine/Node;Lcom/example/carmine/carmine/RedBlack$Row;Ljava/util/Iterator;Ljava/util/function/Function;)V"⟩ : MethodName)) rfl hown (mvT hZ (hw _ (List.mem_of_getElem? (i := 58) rfl))) (mvT hZ (hw _ (List.mem_of_getElem? (i := 59) rfl))) (mvT hZ (hw _ (List.mem_of_getElem? (i := 60) rfl))) (by decide) (backOf (W := 1) (rm9a l Z a0 hw [] b1 h1 n0 (Nat.le_trans Z0 E1.1) F_next_b1 F_row_b1 F_items_b1 F_maker_b1 F_redDepth_b1 A1 g_b1) hZ (hw _ (List.mem_of_getElem? (i := 60) rfl)) (hw _ (List.mem_of_getElem? (i := 55) rfl)) (by decide) (by decide)) (g := (mkF m 11 #[.val (.ref l1)] [.null, .null, .null, .null, (.ref b1), (.ref b1)])) rfl (by rw [hml]; rfl) (Steps.refl _) (a := b1) (argsL := [.null, .null, .null, .null]) (rest := [(.ref b1)]) (lenOf pd8_0_0 rfl) rfl (by show 2 * 0 + _ ≤ _; exact Nat.le_of_eq rfl) (hb hby d8_11) (fun _ _ => ⟨rfl, e2, (by decide : 1 + 0 ≤ _), (by decide : 6 + 0 ≤ _)⟩)
  dsimp only [Pt.U, Pt.locs, Pt.cells, Pt.slots] at X3 l3 y3 z3 st3 hQ3
  subst l3 y3 z3
  obtain ⟨rfl, N3q, K3, G3_0, G3_1, G3_2, G3_3, G3_4, G3_5⟩ := hQ3
  have N3 := Fr.app N0 N3q
  refine goT st3 ?_
  show Go p.tables e below T3 (mkF m 14 #[.val (.ref l1)] [(.ref b1)]) _
  refine go1 (fun _ => XS.aloadN X3.here hx rfl (hb hby d8_14) rfl rfl) ?_
  show Go p.tables e below T3 (mkF m 15 #[.val (.ref l1)] [(.ref l1), (.ref b1)]) _
  obtain ⟨T4, X4, e4, st4⟩ := getFR X3 hx hZ hown (hw _ (List.mem_of_getElem? (i := 70) rfl)) rfl ((F_size_l1.ext E1).keep K3 (ninS (Nat.ne_of_lt (Nat.lt_of_lt_of_le E_l1.lt (Nat.le_of_eq g1.symm))) nin0)) (g := (mkF m 15 #[.val (.ref l1)] [(.ref l1), (.ref b1)])) rfl rfl (hb hby d8_15)
  refine go1 st4 ?_
  show Go p.tables e below T4 (mkF m 18 #[.val (.ref l1)] [(.int (0 : Int32)), (.ref b1)]) _
  obtain ⟨cq5, kq5, q5a, q5b, q5c⟩ := isOf hZ e4 G3_0
  obtain ⟨_, _, ⟨T5, L5, k5, n5⟩, -, X5, ⟨Lc5, hQ5, l5, y5, z5⟩, st5⟩ := X4.virtualBack hx (y := (⟨"com/example/carmine/carmine/RedBlack$Chain", "tree", "(I)Lcom/example/carmine/carmine/Node;"⟩ : MethodName)) (z := (⟨"com/example/carmine/carmine/RedBlack$Chain", "tree", "(I)Lcom/example/carmine/carmine/Node;"⟩ : MethodName)) hown (mvT hZ (hw _ (List.mem_of_getElem? (i := 71) rfl))) (mvT hZ (hw _ (List.mem_of_getElem? (i := 72) rfl))) (notFace_of_selects (args := #[]) (mvT hZ (hw _ (List.mem_of_getElem? (i := 74) rfl)))) (mvT hZ (hw _ (List.mem_of_getElem? (i := 74) rfl))) (mvT hZ (hw _ (List.mem_of_getElem? (i := 73) rfl))) (by decide) (backOf (W := 0) (rm10_0 l Z a0 hw [] b1 T3.heap n0 (Nat.le_trans (Nat.le_trans Z0 E1.1) K3.1) G3_2 G3_3 G3_5 G3_1 G3_0 g_b1) hZ (hw _ (List.mem_of_getElem? (i := 75) rfl)) (hw _ (List.mem_of_getElem? (i := 55) rfl)) (by decide) (by decide)) q5a q5c (g := (mkF m 18 #[.val (.ref l1)] [(.int (0 : Int32)), (.ref b1)])) rfl (by rw [hml]; rfl) (Steps.refl _) (argsL := [(.int (0 : Int32))]) (rest := []) (lenOf pd8_0_1 rfl) rfl (by show 2 * 0 + _ ≤ _; exact Nat.le_of_eq rfl) (hb hby d8_18) (fun _ _ => ⟨rfl, e4, (by decide : 1 + 0 ≤ _), (by decide : 6 + 0 ≤ _)⟩)
  dsimp only [Pt.U, Pt.locs, Pt.cells, Pt.slots] at X5 l5 y5 z5 st5 hQ5
  subst l5 y5 z5
  obtain ⟨rfl, N5q, K5, G5_0⟩ := hQ5
  have N5 := Fr.app N3 N5q
  refine goT st5 ?_
  show Go p.tables e below T5 (mkF m 21 #[.val (.ref l1)] [.null]) _
  refine goR X5 (BodyLoose.notSynchronized Bd) (v := (some .null)) (fun h => by rw [Bd.returns] at h; cases h) (Q8_0 Z l1 h0 n0) (fun fs hr => retOut X5 hx (t := (.object "com/example/carmine/carmine/Node")) (w := .null) Bd.returns rfl (Or.inr (Or.inr (Or.inr (Or.inr ⟨rfl, rfl, rfl⟩)))) (hb hby d8_21) hr) (by decide) (by decide) ?_
  show Q8_0 Z l1 h0 n0 _ T5.heap _
  exact ⟨rfl, N5, ((((Keep.refl h0 []).ext E1).trans K3 (allS (Or.inr (Nat.le_trans (Nat.le_refl h0.size) (Nat.le_of_eq g1.symm))) all0)).trans K5 (allS (Or.inr (Nat.le_trans (Nat.le_refl h0.size) (Nat.le_of_eq g1.symm))) all0))⟩
theorem pn_8_1 : plainName "com/example/carmine/carmine/RedBlack" = true := by first | (simp [plainName, overriddenIn]; done) | decide +kernel
theorem pd8_1_0 : parseMethodDescriptor "(Lcom/example/carmine/carmine/Node;Lcom/example/carmine/carmine/RedBlack$Row;Ljava/util/Iterator;Ljava/util/function/Function;)V" = some ⟨[(.object "com/example/carmine/carmine/Node"), (.object "com/example/carmine/carmine/RedBlack$Row"), (.object "java/util/Iterator"), (.object "java/util/function/Function")], none⟩ := by decide +kernel
theorem pd8_1_1 : parseMethodDescriptor "(I)Lcom/example/carmine/carmine/Node;" = some ⟨[.int], some (.object "com/example/carmine/carmine/Node")⟩ := by decide +kernel
theorem ef_8_1 (m : MethodId) (l1 : Addr) : entryFrame m #[(.ref l1)] 1 = mkF m 0 #[.val (.ref l1)] [] := by first | (simp [entryFrame, mkF, argsToLocals, Value.category]; done) | rfl
def Q8_1 (Z : State) (l1 : Addr) (a1 : Addr) (u : Value) (xl0 : Value) (f0 : Int32) (h0 : Heap) (n0 : Nat) (v : Option Value) (h : Heap) (L : List Loc) : Prop := v = some (.ref a1) ∧ Fr n0 L ∧ Keep h0 h [a1] ∧ Exa Z h a1 "com/example/carmine/carmine/Node" ∧ Fld Z h a1 "com/example/carmine/carmine/Node" "left" "Lcom/example/carmine/carmine/Node;" .null ∧ Fld Z h a1 "com/example/carmine/carmine/Node" "right" "Lcom/example/carmine/carmine/Node;" .null
set_option maxRecDepth 65536 in
set_option maxHeartbeats 40000000 in
theorem rm8_1 (l : Launch) (Z : State) (a0 : Array Value) (hw : ∀ d ∈ tables_1, d.before a0 Z = true) (ws : List Jvm.Cond) (l1 : Addr) (a1 : Addr) (u : Value) (xl0 : Value) (f0 : Int32) (h0 : Heap) (n0 : Nat) (Z0 : n0 ≤ h0.size) (F_first_l1 : Fld Z h0 l1 "com/example/carmine/carmine/RedBlack$Links" "first" "Lcom/example/carmine/carmine/Node;" (.ref a1)) (F_size_l1 : Fld Z h0 l1 "com/example/carmine/carmine/RedBlack$Links" "size" "I" (.int (1 : Int32))) (F_left_a1 : Fld Z h0 a1 "com/example/carmine/carmine/Node" "left" "Lcom/example/carmine/carmine/Node;" xl0) (F_sizeAndColours_a1 : Fld Z h0 a1 "com/example/carmine/carmine/Node" "sizeAndColours" "I" (.int f0)) (F_right_a1 : Fld Z h0 a1 "com/example/carmine/carmine/Node" "right" "Lcom/example/carmine/carmine/Node;" u) (E_a1 : Exa Z h0 a1 "com/example/carmine/carmine/Node") (g_a1 : n0 ≤ a1) (hu : u.isRef = true) (E_l1 : Exa Z h0 l1 "com/example/carmine/carmine/RedBlack$Links") :
    MetFree l (⟨"com/example/carmine/carmine/RedBlack", "build", "(Lcom/example/carmine/carmine/RedBlack$Links;)Lcom/example/carmine/carmine/Node;"⟩ : MethodName) (head1 (Jvm.Cond.code (⟨"com/example/carmine/carmine/RedBlack", "build", "(Lcom/example/carmine/carmine/RedBlack$Links;)Lcom/example/carmine/carmine/Node;"⟩ : MethodName) prog_8_method_10_code 1 (some (.object "com/example/carmine/carmine/Node")) :: ws) ({ frames := 3, cells := 1, slots := 6, locals := 47 } : Room)) (fun a U => a = #[(.ref l1)] ∧ Z.Warmed39 U.vm ∧ U.heap = h0) (fun _ _ _ _ _ => True) (fun _ U o U' => ∃ v L, o = .returned v ∧ Q8_1 Z l1 a1 u xl0 f0 h0 n0 v U'.heap L ∧ FrameEnd U o U' L ({ frames := 3, cells := 1, slots := 6, locals := 47 } : Room).cells ({ frames := 3, cells := 1, slots := 6, locals := 47 } : Room).slots) := by
  refine MetFree.of_bodySF (plainFor_of_name pn_8_1) hisR ?_
  intro p e s m args below meth c s₁ Bd hml0 hP hK
  obtain ⟨rfl, hZ, hh⟩ := hP
  have hx := Bd.exec
  have hby := Bd.bytes
  have hml : c.maxLocals = 1 := hml0
  have hown : s.vm.findClass "com/example/carmine/carmine/RedBlack" = some m.cls := findClass_of_methodNamed Bd.named
  have hnm := (name_of_methodNamed Bd.named Bd.method).1
  have X0 : Stand p l e ({ frames := 3, cells := 1, slots := 6, locals := 47 } : Room) s m #[(.ref l1)] below meth c s₁ [] 0 0 := Stand.of_body Bd
  have e0 : s₁.heap = h0 := by rw [← hh, Bd.state]; rfl
  have N0 := Fr.nil n0
  refine goB (ef_8_1 m l1) ?_
  show Go p.tables e below s₁ (mkF m 0 #[.val (.ref l1)] []) _
  obtain ⟨T1, h1, X1, e1, E1, A1, D1, -, st1⟩ := newO X0 hx hZ hown (hw _ (List.mem_of_getElem? (i := 53) rfl)) (hw _ (List.mem_of_getElem? (i := 54) rfl)) (hw _ (List.mem_of_getElem? (i := 55) rfl)) e0 (g := (mkF m 0 #[.val (.ref l1)] [])) rfl (hb hby d8_0) (by decide) (by decide)
  obtain ⟨b1, g1⟩ : ∃ z, z = h0.size := ⟨_, rfl⟩
  rw [← g1] at A1 D1 st1
  have g_b1 : n0 ≤ b1 := Nat.le_trans Z0 (Nat.le_of_eq g1.symm)
  have F_next_b1 : Fld Z h1 b1 "com/example/carmine/carmine/RedBlack$Chain" "next" "Lcom/example/carmine/carmine/Node;" .null := D1 (Or.inl (hw _ (List.mem_of_getElem? (i := 63) rfl))) (ty := (.object "com/example/carmine/carmine/Node")) (by decide)
  have F_row_b1 : Fld Z h1 b1 "com/example/carmine/carmine/RedBlack$Chain" "row" "Lcom/example/carmine/carmine/RedBlack$Row;" .null := D1 (Or.inr (hw _ (List.mem_of_getElem? (i := 65) rfl))) (ty := (.object "com/example/carmine/carmine/RedBlack$Row")) (by decide)
  have F_items_b1 : Fld Z h1 b1 "com/example/carmine/carmine/RedBlack$Chain" "items" "Ljava/util/Iterator;" .null := D1 (Or.inr (hw _ (List.mem_of_getElem? (i := 67) rfl))) (ty := (.object "java/util/Iterator")) (by decide)
  have F_maker_b1 : Fld Z h1 b1 "com/example/carmine/carmine/RedBlack$Chain" "maker" "Ljava/util/function/Function;" .null := D1 (Or.inr (hw _ (List.mem_of_getElem? (i := 69) rfl))) (ty := (.object "java/util/function/Function")) (by decide)
  have F_redDepth_b1 : Fld Z h1 b1 "com/example/carmine/carmine/RedBlack$Chain" "redDepth" "I" (.int (0 : Int32)) := D1 (Or.inl (hw _ (List.mem_of_getElem? (i := 80) rfl))) (ty := .int) (by decide)
  have F_at_b1 : Fld Z h1 b1 "com/example/carmine/carmine/RedBlack$Chain" "at" "I" (.int (0 : Int32)) := D1 (Or.inl (hw _ (List.mem_of_getElem? (i := 128) rfl))) (ty := .int) (by decide)
  refine go1 st1 ?_
  show Go p.tables e below T1 (mkF m 3 #[.val (.ref l1)] [(.ref b1)]) _
  refine go1 (fun _ => XS.dup X1.here hx rfl (hb hby d8_3) rfl rfl) ?_
  show Go p.tables e below T1 (mkF m 4 #[.val (.ref l1)] [(.ref b1), (.ref b1)]) _
  refine go1 (fun _ => XS.aloadN X1.here hx rfl (hb hby d8_4) rfl rfl) ?_
  show Go p.tables e below T1 (mkF m 5 #[.val (.ref l1)] [(.ref l1), (.ref b1), (.ref b1)]) _
  obtain ⟨T2, X2, e2, st2⟩ := getFR X1 hx hZ hown (hw _ (List.mem_of_getElem? (i := 56) rfl)) e1 (F_first_l1.ext E1) (g := (mkF m 5 #[.val (.ref l1)] [(.ref l1), (.ref b1), (.ref b1)])) rfl rfl (hb hby d8_5)
  refine go1 st2 ?_
  show Go p.tables e below T2 (mkF m 8 #[.val (.ref l1)] [(.ref a1), (.ref b1), (.ref b1)]) _
  refine go1 (fun _ => XS.aconstNull X2.here hx rfl (hb hby d8_8)) ?_
  show Go p.tables e below T2 (mkF m 9 #[.val (.ref l1)] [.null, (.ref a1), (.ref b1), (.ref b1)]) _
  refine go1 (fun _ => XS.aconstNull X2.here hx rfl (hb hby d8_9)) ?_
  show Go p.tables e below T2 (mkF m 10 #[.val (.ref l1)] [.null, .null, (.ref a1), (.ref b1), (.ref b1)]) _
  refine go1 (fun _ => XS.aconstNull X2.here hx rfl (hb hby d8_10)) ?_
  show Go p.tables e below T2 (mkF m 11 #[.val (.ref l1)] [.null, .null, .null, (.ref a1), (.ref b1), (.ref b1)]) _
  obtain ⟨_, _, ⟨T3, L3, k3, n3⟩, -, X3, ⟨Lc3, hQ3, l3, y3, z3⟩, st3⟩ := X2.specialBack hx (y := (⟨"com/example/carmine/carmine/RedBlack$Chain", "<init>", "(Lcom/example/carmine/carmine/Node;Lcom/example/carmine/carmine/RedBlack$Row;Ljava/util/Iterator;Ljava/util/function/Function;)V"⟩ : MethodName)) rfl hown (mvT hZ (hw _ (List.mem_of_getElem? (i := 58) rfl))) (mvT hZ (hw _ (List.mem_of_getElem? (i := 59) rfl))) (mvT hZ (hw _ (List.mem_of_getElem? (i := 60) rfl))) (by decide) (backOf (W := 1) (rm9b l Z a0 hw [] b1 a1 h1 n0 (Nat.le_trans Z0 E1.1) F_next_b1 F_row_b1 F_items_b1 F_maker_b1 F_redDepth_b1 A1 g_b1) hZ (hw _ (List.mem_of_getElem? (i := 60) rfl)) (hw _ (List.mem_of_getElem? (i := 55) rfl)) (by decide) (by decide)) (g := (mkF m 11 #[.val (.ref l1)] [.null, .null, .null, (.ref a1), (.ref b1), (.ref b1)])) rfl (by rw [hml]; rfl) (Steps.refl _) (a := b1) (argsL := [(.ref a1), .null, .null, .null]) (rest := [(.ref b1)]) (lenOf pd8_1_0 rfl) rfl (by show 2 * 0 + _ ≤ _; exact Nat.le_of_eq rfl) (hb hby d8_11) (fun _ _ => ⟨rfl, e2, (by decide : 1 + 0 ≤ _), (by decide : 6 + 0 ≤ _)⟩)
  dsimp only [Pt.U, Pt.locs, Pt.cells, Pt.slots] at X3 l3 y3 z3 st3 hQ3
  subst l3 y3 z3
  obtain ⟨rfl, N3q, K3, G3_0, G3_1, G3_2, G3_3, G3_4, G3_5⟩ := hQ3
  have N3 := Fr.app N0 N3q
  refine goT st3 ?_
  show Go p.tables e below T3 (mkF m 14 #[.val (.ref l1)] [(.ref b1)]) _
  refine go1 (fun _ => XS.aloadN X3.here hx rfl (hb hby d8_14) rfl rfl) ?_
  show Go p.tables e below T3 (mkF m 15 #[.val (.ref l1)] [(.ref l1), (.ref b1)]) _
  obtain ⟨T4, X4, e4, st4⟩ := getFR X3 hx hZ hown (hw _ (List.mem_of_getElem? (i := 70) rfl)) rfl ((F_size_l1.ext E1).keep K3 (ninS (Nat.ne_of_lt (Nat.lt_of_lt_of_le E_l1.lt (Nat.le_of_eq g1.symm))) nin0)) (g := (mkF m 15 #[.val (.ref l1)] [(.ref l1), (.ref b1)])) rfl rfl (hb hby d8_15)
  refine go1 st4 ?_
  show Go p.tables e below T4 (mkF m 18 #[.val (.ref l1)] [(.int (1 : Int32)), (.ref b1)]) _
  obtain ⟨cq5, kq5, q5a, q5b, q5c⟩ := isOf hZ e4 G3_0
  obtain ⟨_, _, ⟨T5, L5, k5, n5⟩, -, X5, ⟨Lc5, hQ5, l5, y5, z5⟩, st5⟩ := X4.virtualBack hx (y := (⟨"com/example/carmine/carmine/RedBlack$Chain", "tree", "(I)Lcom/example/carmine/carmine/Node;"⟩ : MethodName)) (z := (⟨"com/example/carmine/carmine/RedBlack$Chain", "tree", "(I)Lcom/example/carmine/carmine/Node;"⟩ : MethodName)) hown (mvT hZ (hw _ (List.mem_of_getElem? (i := 71) rfl))) (mvT hZ (hw _ (List.mem_of_getElem? (i := 72) rfl))) (notFace_of_selects (args := #[]) (mvT hZ (hw _ (List.mem_of_getElem? (i := 74) rfl)))) (mvT hZ (hw _ (List.mem_of_getElem? (i := 74) rfl))) (mvT hZ (hw _ (List.mem_of_getElem? (i := 73) rfl))) (by decide) (backOf (W := 0) (rm10_1 l Z a0 hw [] b1 a1 u xl0 f0 T3.heap n0 (Nat.le_trans (Nat.le_trans Z0 E1.1) K3.1) G3_2 G3_3 G3_5 G3_1 G3_0 g_b1 ((F_left_a1.ext E1).keep K3 (ninS (Nat.ne_of_lt (Nat.lt_of_lt_of_le E_a1.lt (Nat.le_of_eq g1.symm))) nin0)) ((F_sizeAndColours_a1.ext E1).keep K3 (ninS (Nat.ne_of_lt (Nat.lt_of_lt_of_le E_a1.lt (Nat.le_of_eq g1.symm))) nin0)) ((F_right_a1.ext E1).keep K3 (ninS (Nat.ne_of_lt (Nat.lt_of_lt_of_le E_a1.lt (Nat.le_of_eq g1.symm))) nin0)) ((E_a1.ext E1).keep K3) g_a1 (Nat.ne_of_lt (Nat.lt_of_lt_of_le E_a1.lt (Nat.le_of_eq g1.symm))) hu) hZ (hw _ (List.mem_of_getElem? (i := 75) rfl)) (hw _ (List.mem_of_getElem? (i := 55) rfl)) (by decide) (by decide)) q5a q5c (g := (mkF m 18 #[.val (.ref l1)] [(.int (1 : Int32)), (.ref b1)])) rfl (by rw [hml]; rfl) (Steps.refl _) (argsL := [(.int (1 : Int32))]) (rest := []) (lenOf pd8_1_1 rfl) rfl (by show 2 * 0 + _ ≤ _; exact Nat.le_of_eq rfl) (hb hby d8_18) (fun _ _ => ⟨rfl, e4, (by decide : 1 + 0 ≤ _), (by decide : 6 + 0 ≤ _)⟩)
  dsimp only [Pt.U, Pt.locs, Pt.cells, Pt.slots] at X5 l5 y5 z5 st5 hQ5
  subst l5 y5 z5
  obtain ⟨rfl, N5q, K5, G5_0, G5_1, G5_2, G5_3⟩ := hQ5
  have N5 := Fr.app N3 N5q
  refine goT st5 ?_
  show Go p.tables e below T5 (mkF m 21 #[.val (.ref l1)] [(.ref a1)]) _
  refine goR X5 (BodyLoose.notSynchronized Bd) (v := (some (.ref a1))) (fun h => by rw [Bd.returns] at h; cases h) (Q8_1 Z l1 a1 u xl0 f0 h0 n0) (fun fs hr => retOut X5 hx (t := (.object "com/example/carmine/carmine/Node")) (w := (.ref a1)) Bd.returns rfl (Or.inr (Or.inr (Or.inr (Or.inr ⟨rfl, rfl, rfl⟩)))) (hb hby d8_21) hr) (by decide) (by decide) ?_
  show Q8_1 Z l1 a1 u xl0 f0 h0 n0 _ T5.heap _
  exact ⟨rfl, N5, ((((Keep.refl h0 [a1]).ext E1).trans K3 (allS (Or.inr (Nat.le_trans (Nat.le_refl h0.size) (Nat.le_of_eq g1.symm))) all0)).trans K5 (allS (Or.inr (Nat.le_trans (Nat.le_refl h0.size) (Nat.le_of_eq g1.symm))) (allS (Or.inl (List.mem_of_getElem? (i := 0) rfl)) all0))), G5_1, G5_2, G5_3⟩
theorem pn_8_2 : plainName "com/example/carmine/carmine/RedBlack" = true := by first | (simp [plainName, overriddenIn]; done) | decide +kernel
theorem pd8_2_0 : parseMethodDescriptor "(Lcom/example/carmine/carmine/Node;Lcom/example/carmine/carmine/RedBlack$Row;Ljava/util/Iterator;Ljava/util/function/Function;)V" = some ⟨[(.object "com/example/carmine/carmine/Node"), (.object "com/example/carmine/carmine/RedBlack$Row"), (.object "java/util/Iterator"), (.object "java/util/function/Function")], none⟩ := by decide +kernel
theorem pd8_2_1 : parseMethodDescriptor "(I)Lcom/example/carmine/carmine/Node;" = some ⟨[.int], some (.object "com/example/carmine/carmine/Node")⟩ := by decide +kernel
theorem ef_8_2 (m : MethodId) (l1 : Addr) : entryFrame m #[(.ref l1)] 1 = mkF m 0 #[.val (.ref l1)] [] := by first | (simp [entryFrame, mkF, argsToLocals, Value.category]; done) | rfl
def Q8_2 (Z : State) (l1 : Addr) (a1 : Addr) (a2 : Addr) (u : Value) (xl0 : Value) (f0 : Int32) (xl1 : Value) (f1 : Int32) (h0 : Heap) (n0 : Nat) (v : Option Value) (h : Heap) (L : List Loc) : Prop := v = some (.ref a1) ∧ Fr n0 L ∧ Keep h0 h [a1, a2] ∧ Exa Z h a1 "com/example/carmine/carmine/Node" ∧ Fld Z h a1 "com/example/carmine/carmine/Node" "left" "Lcom/example/carmine/carmine/Node;" .null ∧ Fld Z h a1 "com/example/carmine/carmine/Node" "right" "Lcom/example/carmine/carmine/Node;" (.ref a2)
set_option maxRecDepth 65536 in
set_option maxHeartbeats 40000000 in
theorem rm8_2 (l : Launch) (Z : State) (a0 : Array Value) (hw : ∀ d ∈ tables_1, d.before a0 Z = true) (ws : List Jvm.Cond) (l1 : Addr) (a1 : Addr) (a2 : Addr) (u : Value) (xl0 : Value) (f0 : Int32) (xl1 : Value) (f1 : Int32) (h0 : Heap) (n0 : Nat) (Z0 : n0 ≤ h0.size) (F_first_l1 : Fld Z h0 l1 "com/example/carmine/carmine/RedBlack$Links" "first" "Lcom/example/carmine/carmine/Node;" (.ref a1)) (F_size_l1 : Fld Z h0 l1 "com/example/carmine/carmine/RedBlack$Links" "size" "I" (.int (2 : Int32))) (F_left_a1 : Fld Z h0 a1 "com/example/carmine/carmine/Node" "left" "Lcom/example/carmine/carmine/Node;" xl0) (F_sizeAndColours_a1 : Fld Z h0 a1 "com/example/carmine/carmine/Node" "sizeAndColours" "I" (.int f0)) (F_right_a1 : Fld Z h0 a1 "com/example/carmine/carmine/Node" "right" "Lcom/example/carmine/carmine/Node;" (.ref a2)) (E_a1 : Exa Z h0 a1 "com/example/carmine/carmine/Node") (g_a1 : n0 ≤ a1) (F_left_a2 : Fld Z h0 a2 "com/example/carmine/carmine/Node" "left" "Lcom/example/carmine/carmine/Node;" xl1) (F_sizeAndColours_a2 : Fld Z h0 a2 "com/example/carmine/carmine/Node" "sizeAndColours" "I" (.int f1)) (F_right_a2 : Fld Z h0 a2 "com/example/carmine/carmine/Node" "right" "Lcom/example/carmine/carmine/Node;" u) (E_a2 : Exa Z h0 a2 "com/example/carmine/carmine/Node") (g_a2 : n0 ≤ a2) (hu : u.isRef = true) (n01 : a1 ≠ a2) (E_l1 : Exa Z h0 l1 "com/example/carmine/carmine/RedBlack$Links") :
    MetFree l (⟨"com/example/carmine/carmine/RedBlack", "build", "(Lcom/example/carmine/carmine/RedBlack$Links;)Lcom/example/carmine/carmine/Node;"⟩ : MethodName) (head1 (Jvm.Cond.code (⟨"com/example/carmine/carmine/RedBlack", "build", "(Lcom/example/carmine/carmine/RedBlack$Links;)Lcom/example/carmine/carmine/Node;"⟩ : MethodName) prog_8_method_10_code 1 (some (.object "com/example/carmine/carmine/Node")) :: ws) ({ frames := 4, cells := 1, slots := 6, locals := 60 } : Room)) (fun a U => a = #[(.ref l1)] ∧ Z.Warmed39 U.vm ∧ U.heap = h0) (fun _ _ _ _ _ => True) (fun _ U o U' => ∃ v L, o = .returned v ∧ Q8_2 Z l1 a1 a2 u xl0 f0 xl1 f1 h0 n0 v U'.heap L ∧ FrameEnd U o U' L ({ frames := 4, cells := 1, slots := 6, locals := 60 } : Room).cells ({ frames := 4, cells := 1, slots := 6, locals := 60 } : Room).slots) := by
  refine MetFree.of_bodySF (plainFor_of_name pn_8_2) hisR ?_
  intro p e s m args below meth c s₁ Bd hml0 hP hK
  obtain ⟨rfl, hZ, hh⟩ := hP
  have hx := Bd.exec
  have hby := Bd.bytes
  have hml : c.maxLocals = 1 := hml0
  have hown : s.vm.findClass "com/example/carmine/carmine/RedBlack" = some m.cls := findClass_of_methodNamed Bd.named
  have hnm := (name_of_methodNamed Bd.named Bd.method).1
  have X0 : Stand p l e ({ frames := 4, cells := 1, slots := 6, locals := 60 } : Room) s m #[(.ref l1)] below meth c s₁ [] 0 0 := Stand.of_body Bd
  have e0 : s₁.heap = h0 := by rw [← hh, Bd.state]; rfl
  have N0 := Fr.nil n0
  refine goB (ef_8_2 m l1) ?_
  show Go p.tables e below s₁ (mkF m 0 #[.val (.ref l1)] []) _
  obtain ⟨T1, h1, X1, e1, E1, A1, D1, -, st1⟩ := newO X0 hx hZ hown (hw _ (List.mem_of_getElem? (i := 53) rfl)) (hw _ (List.mem_of_getElem? (i := 54) rfl)) (hw _ (List.mem_of_getElem? (i := 55) rfl)) e0 (g := (mkF m 0 #[.val (.ref l1)] [])) rfl (hb hby d8_0) (by decide) (by decide)
  obtain ⟨b1, g1⟩ : ∃ z, z = h0.size := ⟨_, rfl⟩
  rw [← g1] at A1 D1 st1
  have g_b1 : n0 ≤ b1 := Nat.le_trans Z0 (Nat.le_of_eq g1.symm)
  have F_next_b1 : Fld Z h1 b1 "com/example/carmine/carmine/RedBlack$Chain" "next" "Lcom/example/carmine/carmine/Node;" .null := D1 (Or.inl (hw _ (List.mem_of_getElem? (i := 63) rfl))) (ty := (.object "com/example/carmine/carmine/Node")) (by decide)
  have F_row_b1 : Fld Z h1 b1 "com/example/carmine/carmine/RedBlack$Chain" "row" "Lcom/example/carmine/carmine/RedBlack$Row;" .null := D1 (Or.inr (hw _ (List.mem_of_getElem? (i := 65) rfl))) (ty := (.object "com/example/carmine/carmine/RedBlack$Row")) (by decide)
  have F_items_b1 : Fld Z h1 b1 "com/example/carmine/carmine/RedBlack$Chain" "items" "Ljava/util/Iterator;" .null := D1 (Or.inr (hw _ (List.mem_of_getElem? (i := 67) rfl))) (ty := (.object "java/util/Iterator")) (by decide)
  have F_maker_b1 : Fld Z h1 b1 "com/example/carmine/carmine/RedBlack$Chain" "maker" "Ljava/util/function/Function;" .null := D1 (Or.inr (hw _ (List.mem_of_getElem? (i := 69) rfl))) (ty := (.object "java/util/function/Function")) (by decide)
  have F_redDepth_b1 : Fld Z h1 b1 "com/example/carmine/carmine/RedBlack$Chain" "redDepth" "I" (.int (0 : Int32)) := D1 (Or.inl (hw _ (List.mem_of_getElem? (i := 80) rfl))) (ty := .int) (by decide)
  have F_at_b1 : Fld Z h1 b1 "com/example/carmine/carmine/RedBlack$Chain" "at" "I" (.int (0 : Int32)) := D1 (Or.inl (hw _ (List.mem_of_getElem? (i := 128) rfl))) (ty := .int) (by decide)
  refine go1 st1 ?_
  show Go p.tables e below T1 (mkF m 3 #[.val (.ref l1)] [(.ref b1)]) _
  refine go1 (fun _ => XS.dup X1.here hx rfl (hb hby d8_3) rfl rfl) ?_
  show Go p.tables e below T1 (mkF m 4 #[.val (.ref l1)] [(.ref b1), (.ref b1)]) _
  refine go1 (fun _ => XS.aloadN X1.here hx rfl (hb hby d8_4) rfl rfl) ?_
  show Go p.tables e below T1 (mkF m 5 #[.val (.ref l1)] [(.ref l1), (.ref b1), (.ref b1)]) _
  obtain ⟨T2, X2, e2, st2⟩ := getFR X1 hx hZ hown (hw _ (List.mem_of_getElem? (i := 56) rfl)) e1 (F_first_l1.ext E1) (g := (mkF m 5 #[.val (.ref l1)] [(.ref l1), (.ref b1), (.ref b1)])) rfl rfl (hb hby d8_5)
  refine go1 st2 ?_
  show Go p.tables e below T2 (mkF m 8 #[.val (.ref l1)] [(.ref a1), (.ref b1), (.ref b1)]) _
  refine go1 (fun _ => XS.aconstNull X2.here hx rfl (hb hby d8_8)) ?_
  show Go p.tables e below T2 (mkF m 9 #[.val (.ref l1)] [.null, (.ref a1), (.ref b1), (.ref b1)]) _
  refine go1 (fun _ => XS.aconstNull X2.here hx rfl (hb hby d8_9)) ?_
  show Go p.tables e below T2 (mkF m 10 #[.val (.ref l1)] [.null, .null, (.ref a1), (.ref b1), (.ref b1)]) _
  refine go1 (fun _ => XS.aconstNull X2.here hx rfl (hb hby d8_10)) ?_
  show Go p.tables e below T2 (mkF m 11 #[.val (.ref l1)] [.null, .null, .null, (.ref a1), (.ref b1), (.ref b1)]) _
  obtain ⟨_, _, ⟨T3, L3, k3, n3⟩, -, X3, ⟨Lc3, hQ3, l3, y3, z3⟩, st3⟩ := X2.specialBack hx (y := (⟨"com/example/carmine/carmine/RedBlack$Chain", "<init>", "(Lcom/example/carmine/carmine/Node;Lcom/example/carmine/carmine/RedBlack$Row;Ljava/util/Iterator;Ljava/util/function/Function;)V"⟩ : MethodName)) rfl hown (mvT hZ (hw _ (List.mem_of_getElem? (i := 58) rfl))) (mvT hZ (hw _ (List.mem_of_getElem? (i := 59) rfl))) (mvT hZ (hw _ (List.mem_of_getElem? (i := 60) rfl))) (by decide) (backOf (W := 1) (rm9b l Z a0 hw [] b1 a1 h1 n0 (Nat.le_trans Z0 E1.1) F_next_b1 F_row_b1 F_items_b1 F_maker_b1 F_redDepth_b1 A1 g_b1) hZ (hw _ (List.mem_of_getElem? (i := 60) rfl)) (hw _ (List.mem_of_getElem? (i := 55) rfl)) (by decide) (by decide)) (g := (mkF m 11 #[.val (.ref l1)] [.null, .null, .null, (.ref a1), (.ref b1), (.ref b1)])) rfl (by rw [hml]; rfl) (Steps.refl _) (a := b1) (argsL := [(.ref a1), .null, .null, .null]) (rest := [(.ref b1)]) (lenOf pd8_2_0 rfl) rfl (by show 2 * 0 + _ ≤ _; exact Nat.le_of_eq rfl) (hb hby d8_11) (fun _ _ => ⟨rfl, e2, (by decide : 1 + 0 ≤ _), (by decide : 6 + 0 ≤ _)⟩)
  dsimp only [Pt.U, Pt.locs, Pt.cells, Pt.slots] at X3 l3 y3 z3 st3 hQ3
  subst l3 y3 z3
  obtain ⟨rfl, N3q, K3, G3_0, G3_1, G3_2, G3_3, G3_4, G3_5⟩ := hQ3
  have N3 := Fr.app N0 N3q
  refine goT st3 ?_
  show Go p.tables e below T3 (mkF m 14 #[.val (.ref l1)] [(.ref b1)]) _
  refine go1 (fun _ => XS.aloadN X3.here hx rfl (hb hby d8_14) rfl rfl) ?_
  show Go p.tables e below T3 (mkF m 15 #[.val (.ref l1)] [(.ref l1), (.ref b1)]) _
  obtain ⟨T4, X4, e4, st4⟩ := getFR X3 hx hZ hown (hw _ (List.mem_of_getElem? (i := 70) rfl)) rfl ((F_size_l1.ext E1).keep K3 (ninS (Nat.ne_of_lt (Nat.lt_of_lt_of_le E_l1.lt (Nat.le_of_eq g1.symm))) nin0)) (g := (mkF m 15 #[.val (.ref l1)] [(.ref l1), (.ref b1)])) rfl rfl (hb hby d8_15)
  refine go1 st4 ?_
  show Go p.tables e below T4 (mkF m 18 #[.val (.ref l1)] [(.int (2 : Int32)), (.ref b1)]) _
  obtain ⟨cq5, kq5, q5a, q5b, q5c⟩ := isOf hZ e4 G3_0
  obtain ⟨_, _, ⟨T5, L5, k5, n5⟩, -, X5, ⟨Lc5, hQ5, l5, y5, z5⟩, st5⟩ := X4.virtualBack hx (y := (⟨"com/example/carmine/carmine/RedBlack$Chain", "tree", "(I)Lcom/example/carmine/carmine/Node;"⟩ : MethodName)) (z := (⟨"com/example/carmine/carmine/RedBlack$Chain", "tree", "(I)Lcom/example/carmine/carmine/Node;"⟩ : MethodName)) hown (mvT hZ (hw _ (List.mem_of_getElem? (i := 71) rfl))) (mvT hZ (hw _ (List.mem_of_getElem? (i := 72) rfl))) (notFace_of_selects (args := #[]) (mvT hZ (hw _ (List.mem_of_getElem? (i := 74) rfl)))) (mvT hZ (hw _ (List.mem_of_getElem? (i := 74) rfl))) (mvT hZ (hw _ (List.mem_of_getElem? (i := 73) rfl))) (by decide) (backOf (W := 0) (rm10_2 l Z a0 hw [] b1 a1 a2 u xl0 f0 xl1 f1 T3.heap n0 (Nat.le_trans (Nat.le_trans Z0 E1.1) K3.1) G3_2 G3_3 G3_5 G3_1 G3_0 g_b1 ((F_left_a1.ext E1).keep K3 (ninS (Nat.ne_of_lt (Nat.lt_of_lt_of_le E_a1.lt (Nat.le_of_eq g1.symm))) nin0)) ((F_sizeAndColours_a1.ext E1).keep K3 (ninS (Nat.ne_of_lt (Nat.lt_of_lt_of_le E_a1.lt (Nat.le_of_eq g1.symm))) nin0)) ((F_right_a1.ext E1).keep K3 (ninS (Nat.ne_of_lt (Nat.lt_of_lt_of_le E_a1.lt (Nat.le_of_eq g1.symm))) nin0)) ((E_a1.ext E1).keep K3) g_a1 (Nat.ne_of_lt (Nat.lt_of_lt_of_le E_a1.lt (Nat.le_of_eq g1.symm))) ((F_left_a2.ext E1).keep K3 (ninS (Nat.ne_of_lt (Nat.lt_of_lt_of_le E_a2.lt (Nat.le_of_eq g1.symm))) nin0)) ((F_sizeAndColours_a2.ext E1).keep K3 (ninS (Nat.ne_of_lt (Nat.lt_of_lt_of_le E_a2.lt (Nat.le_of_eq g1.symm))) nin0)) ((F_right_a2.ext E1).keep K3 (ninS (Nat.ne_of_lt (Nat.lt_of_lt_of_le E_a2.lt (Nat.le_of_eq g1.symm))) nin0)) ((E_a2.ext E1).keep K3) g_a2 (Nat.ne_of_lt (Nat.lt_of_lt_of_le E_a2.lt (Nat.le_of_eq g1.symm))) hu n01) hZ (hw _ (List.mem_of_getElem? (i := 75) rfl)) (hw _ (List.mem_of_getElem? (i := 55) rfl)) (by decide) (by decide)) q5a q5c (g := (mkF m 18 #[.val (.ref l1)] [(.int (2 : Int32)), (.ref b1)])) rfl (by rw [hml]; rfl) (Steps.refl _) (argsL := [(.int (2 : Int32))]) (rest := []) (lenOf pd8_2_1 rfl) rfl (by show 2 * 0 + _ ≤ _; exact Nat.le_of_eq rfl) (hb hby d8_18) (fun _ _ => ⟨rfl, e4, (by decide : 1 + 0 ≤ _), (by decide : 6 + 0 ≤ _)⟩)
  dsimp only [Pt.U, Pt.locs, Pt.cells, Pt.slots] at X5 l5 y5 z5 st5 hQ5
  subst l5 y5 z5
  obtain ⟨rfl, N5q, K5, G5_0, G5_1, G5_2, G5_3⟩ := hQ5
  have N5 := Fr.app N3 N5q
  refine goT st5 ?_
  show Go p.tables e below T5 (mkF m 21 #[.val (.ref l1)] [(.ref a1)]) _
  refine goR X5 (BodyLoose.notSynchronized Bd) (v := (some (.ref a1))) (fun h => by rw [Bd.returns] at h; cases h) (Q8_2 Z l1 a1 a2 u xl0 f0 xl1 f1 h0 n0) (fun fs hr => retOut X5 hx (t := (.object "com/example/carmine/carmine/Node")) (w := (.ref a1)) Bd.returns rfl (Or.inr (Or.inr (Or.inr (Or.inr ⟨rfl, rfl, rfl⟩)))) (hb hby d8_21) hr) (by decide) (by decide) ?_
  show Q8_2 Z l1 a1 a2 u xl0 f0 xl1 f1 h0 n0 _ T5.heap _
  exact ⟨rfl, N5, ((((Keep.refl h0 [a1, a2]).ext E1).trans K3 (allS (Or.inr (Nat.le_trans (Nat.le_refl h0.size) (Nat.le_of_eq g1.symm))) all0)).trans K5 (allS (Or.inr (Nat.le_trans (Nat.le_refl h0.size) (Nat.le_of_eq g1.symm))) (allS (Or.inl (List.mem_of_getElem? (i := 0) rfl)) (allS (Or.inl (List.mem_of_getElem? (i := 1) rfl)) all0)))), G5_1, G5_2, G5_3⟩
theorem pn_8_3 : plainName "com/example/carmine/carmine/RedBlack" = true := by first | (simp [plainName, overriddenIn]; done) | decide +kernel
theorem pd8_3_0 : parseMethodDescriptor "(Lcom/example/carmine/carmine/Node;Lcom/example/carmine/carmine/RedBlack$Row;Ljava/util/Iterator;Ljava/util/function/Function;)V" = some ⟨[(.object "com/example/carmine/carmine/Node"), (.object "com/example/carmine/carmine/RedBlack$Row"), (.object "java/util/Iterator"), (.object "java/util/function/Function")], none⟩ := by decide +kernel
theorem pd8_3_1 : parseMethodDescriptor "(I)Lcom/example/carmine/carmine/Node;" = some ⟨[.int], some (.object "com/example/carmine/carmine/Node")⟩ := by decide +kernel
theorem ef_8_3 (m : MethodId) (l1 : Addr) : entryFrame m #[(.ref l1)] 1 = mkF m 0 #[.val (.ref l1)] [] := by first | (simp [entryFrame, mkF, argsToLocals, Value.category]; done) | rfl
def Q8_3 (Z : State) (l1 : Addr) (a1 : Addr) (a2 : Addr) (a3 : Addr) (u : Value) (xl0 : Value) (f0 : Int32) (xl1 : Value) (f1 : Int32) (xl2 : Value) (f2 : Int32) (h0 : Heap) (n0 : Nat) (v : Option Value) (h : Heap) (L : List Loc) : Prop := v = some (.ref a2) ∧ Fr n0 L ∧ Keep h0 h [a1, a2, a3] ∧ Exa Z h a2 "com/example/carmine/carmine/Node" ∧ Fld Z h a2 "com/example/carmine/carmine/Node" "left" "Lcom/example/carmine/carmine/Node;" (.ref a1) ∧ Fld Z h a2 "com/example/carmine/carmine/Node" "right" "Lcom/example/carmine/carmine/Node;" (.ref a3)
set_option maxRecDepth 65536 in
set_option maxHeartbeats 40000000 in
theorem rm8_3 (l : Launch) (Z : State) (a0 : Array Value) (hw : ∀ d ∈ tables_1, d.before a0 Z = true) (ws : List Jvm.Cond) (l1 : Addr) (a1 : Addr) (a2 : Addr) (a3 : Addr) (u : Value) (xl0 : Value) (f0 : Int32) (xl1 : Value) (f1 : Int32) (xl2 : Value) (f2 : Int32) (h0 : Heap) (n0 : Nat) (Z0 : n0 ≤ h0.size) (F_first_l1 : Fld Z h0 l1 "com/example/carmine/carmine/RedBlack$Links" "first" "Lcom/example/carmine/carmine/Node;" (.ref a1)) (F_size_l1 : Fld Z h0 l1 "com/example/carmine/carmine/RedBlack$Links" "size" "I" (.int (3 : Int32))) (F_left_a1 : Fld Z h0 a1 "com/example/carmine/carmine/Node" "left" "Lcom/example/carmine/carmine/Node;" xl0) (F_sizeAndColours_a1 : Fld Z h0 a1 "com/example/carmine/carmine/Node" "sizeAndColours" "I" (.int f0)) (F_right_a1 : Fld Z h0 a1 "com/example/carmine/carmine/Node" "right" "Lcom/example/carmine/carmine/Node;" (.ref a2)) (E_a1 : Exa Z h0 a1 "com/example/carmine/carmine/Node") (g_a1 : n0 ≤ a1) (F_left_a2 : Fld Z h0 a2 "com/example/carmine/carmine/Node" "left" "Lcom/example/carmine/carmine/Node;" xl1) (F_sizeAndColours_a2 : Fld Z h0 a2 "com/example/carmine/carmine/Node" "sizeAndColours" "I" (.int f1)) (F_right_a2 : Fld Z h0 a2 "com/example/carmine/carmine/Node" "right" "Lcom/example/carmine/carmine/Node;" (.ref a3)) (E_a2 : Exa Z h0 a2 "com/example/carmine/carmine/Node") (g_a2 : n0 ≤ a2) (F_left_a3 : Fld Z h0 a3 "com/example/carmine/carmine/Node" "left" "Lcom/example/carmine/carmine/Node;" xl2) (F_sizeAndColours_a3 : Fld Z h0 a3 "com/example/carmine/carmine/Node" "sizeAndColours" "I" (.int f2)) (F_right_a3 : Fld Z h0 a3 "com/example/carmine/carmine/Node" "right" "Lcom/example/carmine/carmine/Node;" u) (E_a3 : Exa Z h0 a3 "com/example/carmine/carmine/Node") (g_a3 : n0 ≤ a3) (hu : u.isRef = true) (n01 : a1 ≠ a2) (n02 : a1 ≠ a3) (n12 : a2 ≠ a3) (E_l1 : Exa Z h0 l1 "com/example/carmine/carmine/RedBlack$Links") :
    MetFree l (⟨"com/example/carmine/carmine/RedBlack", "build", "(Lcom/example/carmine/carmine/RedBlack$Links;)Lcom/example/carmine/carmine/Node;"⟩ : MethodName) (head1 (Jvm.Cond.code (⟨"com/example/carmine/carmine/RedBlack", "build", "(Lcom/example/carmine/carmine/RedBlack$Links;)Lcom/example/carmine/carmine/Node;"⟩ : MethodName) prog_8_method_10_code 1 (some (.object "com/example/carmine/carmine/Node")) :: ws) ({ frames := 4, cells := 1, slots := 6, locals := 60 } : Room)) (fun a U => a = #[(.ref l1)] ∧ Z.Warmed39 U.vm ∧ U.heap = h0) (fun _ _ _ _ _ => True) (fun _ U o U' => ∃ v L, o = .returned v ∧ Q8_3 Z l1 a1 a2 a3 u xl0 f0 xl1 f1 xl2 f2 h0 n0 v U'.heap L ∧ FrameEnd U o U' L ({ frames := 4, cells := 1, slots := 6, locals := 60 } : Room).cells ({ frames := 4, cells := 1, slots := 6, locals := 60 } : Room).slots) := by
  refine MetFree.of_bodySF (plainFor_of_name pn_8_3) hisR ?_
  intro p e s m args below meth c s₁ Bd hml0 hP hK
  obtain ⟨rfl, hZ, hh⟩ := hP
  have hx := Bd.exec
  have hby := Bd.bytes
  have hml : c.maxLocals = 1 := hml0
  have hown : s.vm.findClass "com/example/carmine/carmine/RedBlack" = some m.cls := findClass_of_methodNamed Bd.named
  have hnm := (name_of_methodNamed Bd.named Bd.method).1
  have X0 : Stand p l e ({ frames := 4, cells := 1, slots := 6, locals := 60 } : Room) s m #[(.ref l1)] below meth c s₁ [] 0 0 := Stand.of_body Bd
  have e0 : s₁.heap = h0 := by rw [← hh, Bd.state]; rfl
  have N0 := Fr.nil n0
  refine goB (ef_8_3 m l1) ?_
  show Go p.tables e below s₁ (mkF m 0 #[.val (.ref l1)] []) _
  obtain ⟨T1, h1, X1, e1, E1, A1, D1, -, st1⟩ := newO X0 hx hZ hown (hw _ (List.mem_of_getElem? (i := 53) rfl)) (hw _ (List.mem_of_getElem? (i := 54) rfl)) (hw _ (List.mem_of_getElem? (i := 55) rfl)) e0 (g := (mkF m 0 #[.val (.ref l1)] [])) rfl (hb hby d8_0) (by decide) (by decide)
  obtain ⟨b1, g1⟩ : ∃ z, z = h0.size := ⟨_, rfl⟩
  rw [← g1] at A1 D1 st1
  have g_b1 : n0 ≤ b1 := Nat.le_trans Z0 (Nat.le_of_eq g1.symm)
  have F_next_b1 : Fld Z h1 b1 "com/example/carmine/carmine/RedBlack$Chain" "next" "Lcom/example/carmine/carmine/Node;" .null := D1 (Or.inl (hw _ (List.mem_of_getElem? (i := 63) rfl))) (ty := (.object "com/example/carmine/carmine/Node")) (by decide)
  have F_row_b1 : Fld Z h1 b1 "com/example/carmine/carmine/RedBlack$Chain" "row" "Lcom/example/carmine/carmine/RedBlack$Row;" .null := D1 (Or.inr (hw _ (List.mem_of_getElem? (i := 65) rfl))) (ty := (.object "com/example/carmine/carmine/RedBlack$Row")) (by decide)
  have F_items_b1 : Fld Z h1 b1 "com/example/carmine/carmine/RedBlack$Chain" "items" "Ljava/util/Iterator;" .null := D1 (Or.inr (hw _ (List.mem_of_getElem? (i := 67) rfl))) (ty := (.object "java/util/Iterator")) (by decide)
  have F_maker_b1 : Fld Z h1 b1 "com/example/carmine/carmine/RedBlack$Chain" "maker" "Ljava/util/function/Function;" .null := D1 (Or.inr (hw _ (List.mem_of_getElem? (i := 69) rfl))) (ty := (.object "java/util/function/Function")) (by decide)
  have F_redDepth_b1 : Fld Z h1 b1 "com/example/carmine/carmine/RedBlack$Chain" "redDepth" "I" (.int (0 : Int32)) := D1 (Or.inl (hw _ (List.mem_of_getElem? (i := 80) rfl))) (ty := .int) (by decide)
  have F_at_b1 : Fld Z h1 b1 "com/example/carmine/carmine/RedBlack$Chain" "at" "I" (.int (0 : Int32)) := D1 (Or.inl (hw _ (List.mem_of_getElem? (i := 128) rfl))) (ty := .int) (by decide)
  refine go1 st1 ?_
  show Go p.tables e below T1 (mkF m 3 #[.val (.ref l1)] [(.ref b1)]) _
  refine go1 (fun _ => XS.dup X1.here hx rfl (hb hby d8_3) rfl rfl) ?_
  show Go p.tables e below T1 (mkF m 4 #[.val (.ref l1)] [(.ref b1), (.ref b1)]) _
  refine go1 (fun _ => XS.aloadN X1.here hx rfl (hb hby d8_4) rfl rfl) ?_
  show Go p.tables e below T1 (mkF m 5 #[.val (.ref l1)] [(.ref l1), (.ref b1), (.ref b1)]) _
  obtain ⟨T2, X2, e2, st2⟩ := getFR X1 hx hZ hown (hw _ (List.mem_of_getElem? (i := 56) rfl)) e1 (F_first_l1.ext E1) (g := (mkF m 5 #[.val (.ref l1)] [(.ref l1), (.ref b1), (.ref b1)])) rfl rfl (hb hby d8_5)
  refine go1 st2 ?_
  show Go p.tables e below T2 (mkF m 8 #[.val (.ref l1)] [(.ref a1), (.ref b1), (.ref b1)]) _
  refine go1 (fun _ => XS.aconstNull X2.here hx rfl (hb hby d8_8)) ?_
  show Go p.tables e below T2 (mkF m 9 #[.val (.ref l1)] [.null, (.ref a1), (.ref b1), (.ref b1)]) _
  refine go1 (fun _ => XS.aconstNull X2.here hx rfl (hb hby d8_9)) ?_
  show Go p.tables e below T2 (mkF m 10 #[.val (.ref l1)] [.null, .null, (.ref a1), (.ref b1), (.ref b1)]) _
  refine go1 (fun _ => XS.aconstNull X2.here hx rfl (hb hby d8_10)) ?_
  show Go p.tables e below T2 (mkF m 11 #[.val (.ref l1)] [.null, .null, .null, (.ref a1), (.ref b1), (.ref b1)]) _
  obtain ⟨_, _, ⟨T3, L3, k3, n3⟩, -, X3, ⟨Lc3, hQ3, l3, y3, z3⟩, st3⟩ := X2.specialBack hx (y := (⟨"com/example/carmine/carmine/RedBlack$Chain", "<init>", "(Lcom/example/carmine/carmine/Node;Lcom/example/carmine/carmine/RedBlack$Row;Ljava/util/Iterator;Ljava/util/function/Function;)V"⟩ : MethodName)) rfl hown (mvT hZ (hw _ (List.mem_of_getElem? (i := 58) rfl))) (mvT hZ (hw _ (List.mem_of_getElem? (i := 59) rfl))) (mvT hZ (hw _ (List.mem_of_getElem? (i := 60) rfl))) (by decide) (backOf (W := 1) (rm9b l Z a0 hw [] b1 a1 h1 n0 (Nat.le_trans Z0 E1.1) F_next_b1 F_row_b1 F_items_b1 F_maker_b1 F_redDepth_b1 A1 g_b1) hZ (hw _ (List.mem_of_getElem? (i := 60) rfl)) (hw _ (List.mem_of_getElem? (i := 55) rfl)) (by decide) (by decide)) (g := (mkF m 11 #[.val (.ref l1)] [.null, .null, .null, (.ref a1), (.ref b1), (.ref b1)])) rfl (by rw [hml]; rfl) (Steps.refl _) (a := b1) (argsL := [(.ref a1), .null, .null, .null]) (rest := [(.ref b1)]) (lenOf pd8_3_0 rfl) rfl (by show 2 * 0 + _ ≤ _; exact Nat.le_of_eq rfl) (hb hby d8_11) (fun _ _ => ⟨rfl, e2, (by decide : 1 + 0 ≤ _), (by decide : 6 + 0 ≤ _)⟩)
  dsimp only [Pt.U, Pt.locs, Pt.cells, Pt.slots] at X3 l3 y3 z3 st3 hQ3
  subst l3 y3 z3
  obtain ⟨rfl, N3q, K3, G3_0, G3_1, G3_2, G3_3, G3_4, G3_5⟩ := hQ3
  have N3 := Fr.app N0 N3q
  refine goT st3 ?_
  show Go p.tables e below T3 (mkF m 14 #[.val (.ref l1)] [(.ref b1)]) _
  refine go1 (fun _ => XS.aloadN X3.here hx rfl (hb hby d8_14) rfl rfl) ?_
  show Go p.tables e below T3 (mkF m 15 #[.val (.ref l1)] [(.ref l1), (.ref b1)]) _
  obtain ⟨T4, X4, e4, st4⟩ := getFR X3 hx hZ hown (hw _ (List.mem_of_getElem? (i := 70) rfl)) rfl ((F_size_l1.ext E1).keep K3 (ninS (Nat.ne_of_lt (Nat.lt_of_lt_of_le E_l1.lt (Nat.le_of_eq g1.symm))) nin0)) (g := (mkF m 15 #[.val (.ref l1)] [(.ref l1), (.ref b1)])) rfl rfl (hb hby d8_15)
  refine go1 st4 ?_
  show Go p.tables e below T4 (mkF m 18 #[.val (.ref l1)] [(.int (3 : Int32)), (.ref b1)]) _
  obtain ⟨cq5, kq5, q5a, q5b, q5c⟩ := isOf hZ e4 G3_0
  obtain ⟨_, _, ⟨T5, L5, k5, n5⟩, -, X5, ⟨Lc5, hQ5, l5, y5, z5⟩, st5⟩ := X4.virtualBack hx (y := (⟨"com/example/carmine/carmine/RedBlack$Chain", "tree", "(I)Lcom/example/carmine/carmine/Node;"⟩ : MethodName)) (z := (⟨"com/example/carmine/carmine/RedBlack$Chain", "tree", "(I)Lcom/example/carmine/carmine/Node;"⟩ : MethodName)) hown (mvT hZ (hw _ (List.mem_of_getElem? (i := 71) rfl))) (mvT hZ (hw _ (List.mem_of_getElem? (i := 72) rfl))) (notFace_of_selects (args := #[]) (mvT hZ (hw _ (List.mem_of_getElem? (i := 74) rfl)))) (mvT hZ (hw _ (List.mem_of_getElem? (i := 74) rfl))) (mvT hZ (hw _ (List.mem_of_getElem? (i := 73) rfl))) (by decide) (backOf (W := 0) (rm10_3 l Z a0 hw [] b1 a1 a2 a3 u xl0 f0 xl1 f1 xl2 f2 T3.heap n0 (Nat.le_trans (Nat.le_trans Z0 E1.1) K3.1) G3_2 G3_3 G3_5 G3_1 G3_0 g_b1 ((F_left_a1.ext E1).keep K3 (ninS (Nat.ne_of_lt (Nat.lt_of_lt_of_le E_a1.lt (Nat.le_of_eq g1.symm))) nin0)) ((F_sizeAndColours_a1.ext E1).keep K3 (ninS (Nat.ne_of_lt (Nat.lt_of_lt_of_le E_a1.lt (Nat.le_of_eq g1.symm))) nin0)) ((F_right_a1.ext E1).keep K3 (ninS (Nat.ne_of_lt (Nat.lt_of_lt_of_le E_a1.lt (Nat.le_of_eq g1.symm))) nin0)) ((E_a1.ext E1).keep K3) g_a1 (Nat.ne_of_lt (Nat.lt_of_lt_of_le E_a1.lt (Nat.le_of_eq g1.symm))) ((F_left_a2.ext E1).keep K3 (ninS (Nat.ne_of_lt (Nat.lt_of_lt_of_le E_a2.lt (Nat.le_of_eq g1.symm))) nin0)) ((F_sizeAndColours_a2.ext E1).keep K3 (ninS (Nat.ne_of_lt (Nat.lt_of_lt_of_le E_a2.lt (Nat.le_of_eq g1.symm))) nin0)) ((F_right_a2.ext E1).keep K3 (ninS (Nat.ne_of_lt (Nat.lt_of_lt_of_le E_a2.lt (Nat.le_of_eq g1.symm))) nin0)) ((E_a2.ext E1).keep K3) g_a2 (Nat.ne_of_lt (Nat.lt_of_lt_of_le E_a2.lt (Nat.le_of_eq g1.symm))) ((F_left_a3.ext E1).keep K3 (ninS (Nat.ne_of_lt (Nat.lt_of_lt_of_le E_a3.lt (Nat.le_of_eq g1.symm))) nin0)) ((F_sizeAndColours_a3.ext E1).keep K3 (ninS (Nat.ne_of_lt (Nat.lt_of_lt_of_le E_a3.lt (Nat.le_of_eq g1.symm))) nin0)) ((F_right_a3.ext E1).keep K3 (ninS (Nat.ne_of_lt (Nat.lt_of_lt_of_le E_a3.lt (Nat.le_of_eq g1.symm))) nin0)) ((E_a3.ext E1).keep K3) g_a3 (Nat.ne_of_lt (Nat.lt_of_lt_of_le E_a3.lt (Nat.le_of_eq g1.symm))) hu n01 n02 n12) hZ (hw _ (List.mem_of_getElem? (i := 75) rfl)) (hw _ (List.mem_of_getElem? (i := 55) rfl)) (by decide) (by decide)) q5a q5c (g := (mkF m 18 #[.val (.ref l1)] [(.int (3 : Int32)), (.ref b1)])) rfl (by rw [hml]; rfl) (Steps.refl _) (argsL := [(.int (3 : Int32))]) (rest := []) (lenOf pd8_3_1 rfl) rfl (by show 2 * 0 + _ ≤ _; exact Nat.le_of_eq rfl) (hb hby d8_18) (fun _ _ => ⟨rfl, e4, (by decide : 1 + 0 ≤ _), (by decide : 6 + 0 ≤ _)⟩)
  dsimp only [Pt.U, Pt.locs, Pt.cells, Pt.slots] at X5 l5 y5 z5 st5 hQ5
  subst l5 y5 z5
  obtain ⟨rfl, N5q, K5, G5_0, G5_1, G5_2, G5_3⟩ := hQ5
  have N5 := Fr.app N3 N5q
  refine goT st5 ?_
  show Go p.tables e below T5 (mkF m 21 #[.val (.ref l1)] [(.ref a2)]) _
  refine goR X5 (BodyLoose.notSynchronized Bd) (v := (some (.ref a2))) (fun h => by rw [Bd.returns] at h; cases h) (Q8_3 Z l1 a1 a2 a3 u xl0 f0 xl1 f1 xl2 f2 h0 n0) (fun fs hr => retOut X5 hx (t := (.object "com/example/carmine/carmine/Node")) (w := (.ref a2)) Bd.returns rfl (Or.inr (Or.inr (Or.inr (Or.inr ⟨rfl, rfl, rfl⟩)))) (hb hby d8_21) hr) (by decide) (by decide) ?_
  show Q8_3 Z l1 a1 a2 a3 u xl0 f0 xl1 f1 xl2 f2 h0 n0 _ T5.heap _
  exact ⟨rfl, N5, ((((Keep.refl h0 [a1, a2, a3]).ext E1).trans K3 (allS (Or.inr (Nat.le_trans (Nat.le_refl h0.size) (Nat.le_of_eq g1.symm))) all0)).trans K5 (allS (Or.inr (Nat.le_trans (Nat.le_refl h0.size) (Nat.le_of_eq g1.symm))) (allS (Or.inl (List.mem_of_getElem? (i := 0) rfl)) (allS (Or.inl (List.mem_of_getElem? (i := 1) rfl)) (allS (Or.inl (List.mem_of_getElem? (i := 2) rfl)) all0))))), G5_1, G5_2, G5_3⟩
theorem own_and3 (x : Int32) : (x &&& (3 : Int32)) = (0 : Int32) ∨ (x &&& (3 : Int32)) = (1 : Int32) ∨ (x &&& (3 : Int32)) = (2 : Int32) ∨ (x &&& (3 : Int32)) = (3 : Int32) := by
  have h := c_mask x (3 : Int32) 2 (by decide) (by decide)
  have l : (0 : Int32).toInt = 0 ∧ (1 : Int32).toInt = 1 ∧ (2 : Int32).toInt = 2 ∧ (3 : Int32).toInt = 3 := by decide
  simp only [← Int32.toInt_inj]
  omega
theorem pn_0 : plainName "com/example/carmine/carmine/LinksAddPinLaw" = true := by first | (simp [plainName, overriddenIn]; done) | decide +kernel
theorem pd0_0 : parseMethodDescriptor "(I)Ljava/lang/Integer;" = some ⟨[.int], some (.object "java/lang/Integer")⟩ := by decide +kernel
theorem pd0_1 : parseMethodDescriptor "(Ljava/lang/Object;Ljava/lang/Object;)V" = some ⟨[(.object "java/lang/Object"), (.object "java/lang/Object")], none⟩ := by decide +kernel
theorem pd0_2 : parseMethodDescriptor "(ILcom/example/carmine/carmine/Node;Lcom/example/carmine/carmine/Node;Lcom/example/carmine/carmine/Node;)Lcom/example/carmine/carmine/Node;" = some ⟨[.int, (.object "com/example/carmine/carmine/Node"), (.object "com/example/carmine/carmine/Node"), (.object "com/example/carmine/carmine/Node")], some (.object "com/example/carmine/carmine/Node")⟩ := by decide +kernel
theorem pd0_3 : parseMethodDescriptor "()V" = some ⟨[], none⟩ := by decide +kernel
theorem pd0_4 : parseMethodDescriptor "()Lcom/example/carmine/carmine/Node;" = some ⟨[], some (.object "com/example/carmine/carmine/Node")⟩ := by decide +kernel
theorem pd0_5 : parseMethodDescriptor "()I" = some ⟨[], some .int⟩ := by decide +kernel
theorem pd0_6 : parseMethodDescriptor "(Lcom/example/carmine/carmine/RedBlack$Links;)Lcom/example/carmine/carmine/Node;" = some ⟨[(.object "com/example/carmine/carmine/RedBlack$Links")], some (.object "com/example/carmine/carmine/Node")⟩ := by decide +kernel
theorem pd0_7 : parseMethodDescriptor "(Lcom/example/carmine/carmine/Node;)V" = some ⟨[(.object "com/example/carmine/carmine/Node")], none⟩ := by decide +kernel
theorem ef_0 (m : MethodId) (p1 : Int32) (p2 : Int32) : entryFrame m #[(.int p1), (.int p2)] maxLocals = mkF m 0 #[.val (.int p1), .val (.int p2), .unset, .unset, .unset, .unset, .unset, .unset, .unset, .unset, .unset] [] := by first | (simp [entryFrame, mkF, argsToLocals, Value.category, maxLocals]; done) | rfl
def Q0 (Z : State) (p1 : Int32) (p2 : Int32) (a_cache : Addr) (h0 : Heap) (n0 : Nat) (v : Option Value) (h : Heap) (L : List Loc) : Prop := v = some (.int (1 : Int32)) ∧ Fr n0 L
set_option maxRecDepth 65536 in
set_option maxHeartbeats 40000000 in
theorem rm0 (l : Launch) (Z : State) (a0 : Array Value) (hw : ∀ d ∈ tables_1, d.before a0 Z = true) (ws : List Jvm.Cond) (p1 : Int32) (p2 : Int32) (a_cache : Addr) (h0 : Heap) (n0 : Nat) (Z0 : n0 ≤ h0.size) (O0 : Old Z n0 h0) (S_cache : Sta Z Z.heap "java/lang/Integer$IntegerCache" "cache" "[Ljava/lang/Integer;" (.ref a_cache)) (ES_a_cache : Exa Z Z.heap a_cache "[Ljava/lang/Integer;") (S_high : Sta Z Z.heap "java/lang/Integer$IntegerCache" "high" "I" (.int (127 : Int32))) (BX_a_cache : ∃ cB : Cell, Bxs Z a_cache cB "java/lang/Integer" "I" (256 : Int32) (fun j => .int (j - (128 : Int32)))) :
    MetFree l x (head1 (Jvm.Cond.code x code maxLocals ret :: ws) room_1) (fun a U => a = #[(.int p1), (.int p2)] ∧ Z.Warmed39 U.vm ∧ U.heap = h0) (fun _ _ _ _ _ => True) (fun _ U o U' => ∃ v L, o = .returned v ∧ Q0 Z p1 p2 a_cache h0 n0 v U'.heap L ∧ FrameEnd U o U' L 24 128) := by
  refine MetFree.of_bodySF (plainFor_of_name pn_0) hisR ?_
  intro p e s m args below meth c s₁ Bd hml0 hP hK
  obtain ⟨rfl, hZ, hh⟩ := hP
  have hx := Bd.exec
  have hby := Bd.bytes
  have hml : c.maxLocals = 11 := hml0
  have hown : s.vm.findClass "com/example/carmine/carmine/LinksAddPinLaw" = some m.cls := findClass_of_methodNamed Bd.named
  have hnm := (name_of_methodNamed Bd.named Bd.method).1
  have X0 : Stand p l e room_1 s m #[(.int p1), (.int p2)] below meth c s₁ [] 0 0 := Stand.of_body Bd
  have e0 : s₁.heap = h0 := by rw [← hh, Bd.state]; rfl
  have N0 := Fr.nil n0
  refine goB (ef_0 m p1 p2) ?_
  show Go p.tables e below s₁ (mkF m 0 #[.val (.int p1), .val (.int p2), .unset, .unset, .unset, .unset, .unset, .unset, .unset, .unset, .unset] []) _
  refine go1 (fun _ => XS.iloadN X0.here hx rfl (hb hby at_0) rfl) ?_
  show Go p.tables e below s₁ (mkF m 1 #[.val (.int p1), .val (.int p2), .unset, .unset, .unset, .unset, .unset, .unset, .unset, .unset, .unset] [(.int p1)]) _
  refine go1 (fun _ => XS.iconst X0.here hx rfl (hb hby at_1)) ?_
  show Go p.tables e below s₁ (mkF m 2 #[.val (.int p1), .val (.int p2), .unset, .unset, .unset, .unset, .unset, .unset, .unset, .unset, .unset] [(.int (3 : Int32)), (.int p1)]) _
  refine go1 (fun _ => XS.iand X0.here hx rfl (hb hby at_2) rfl) ?_
  show Go p.tables e below s₁ (mkF m 3 #[.val (.int p1), .val (.int p2), .unset, .unset, .unset, .unset, .unset, .unset, .unset, .unset, .unset] [(.int (p1 &&& (3 : Int32)))]) _
  refine go1 (fun _ => XS.istoreN X0.here hx rfl (hb hby at_3) rfl (l' := #[.val (.int p1), .val (.int p2), .val (.int (p1 &&& (3 : Int32))), .unset, .unset, .unset, .unset, .unset, .unset, .unset, .unset]) rfl) ?_
  show Go p.tables e below s₁ (mkF m 4 #[.val (.int p1), .val (.int p2), .val (.int (p1 &&& (3 : Int32))), .unset, .unset, .unset, .unset, .unset, .unset, .unset, .unset] []) _
  obtain ⟨T1, h1, X1, e1, E1, A1, D1, -, st1⟩ := newO X0 hx hZ hown (hw _ (List.mem_of_getElem? (i := 0) rfl)) (hw _ (List.mem_of_getElem? (i := 1) rfl)) (hw _ (List.mem_of_getElem? (i := 2) rfl)) e0 (g := (mkF m 4 #[.val (.int p1), .val (.int p2), .val (.int (p1 &&& (3 : Int32))), .unset, .unset, .unset, .unset, .unset, .unset, .unset, .unset] [])) rfl (hb hby at_4) (by decide) (by decide)
  obtain ⟨b1, g1⟩ : ∃ z, z = h0.size := ⟨_, rfl⟩
  rw [← g1] at A1 D1 st1
  have g_b1 : n0 ≤ b1 := Nat.le_trans Z0 (Nat.le_of_eq g1.symm)
  have F_key_b1 : Fld Z h1 b1 "com/example/carmine/carmine/Node" "key" "Ljava/lang/Object;" .null := D1 (Or.inl (hw _ (List.mem_of_getElem? (i := 17) rfl))) (ty := (.object "java/lang/Object")) (by decide)
  have F_value_b1 : Fld Z h1 b1 "com/example/carmine/carmine/Node" "value" "Ljava/lang/Object;" .null := D1 (Or.inl (hw _ (List.mem_of_getElem? (i := 19) rfl))) (ty := (.object "java/lang/Object")) (by decide)
  have F_sizeAndColours_b1 : Fld Z h1 b1 "com/example/carmine/carmine/Node" "sizeAndColours" "I" (.int (0 : Int32)) := D1 (Or.inl (hw _ (List.mem_of_getElem? (i := 21) rfl))) (ty := .int) (by decide)
  have F_right_b1 : Fld Z h1 b1 "com/example/carmine/carmine/Node" "right" "Lcom/example/carmine/carmine/Node;" .null := D1 (Or.inl (hw _ (List.mem_of_getElem? (i := 27) rfl))) (ty := (.object "com/example/carmine/carmine/Node")) (by decide)
  have F_left_b1 : Fld Z h1 b1 "com/example/carmine/carmine/Node" "left" "Lcom/example/carmine/carmine/Node;" .null := D1 (Or.inl (hw _ (List.mem_of_getElem? (i := 109) rfl))) (ty := (.object "com/example/carmine/carmine/Node")) (by decide)
  refine go1 st1 ?_
  show Go p.tables e below T1 (mkF m 7 #[.val (.int p1), .val (.int p2), .val (.int (p1 &&& (3 : Int32))), .unset, .unset, .unset, .unset, .unset, .unset, .unset, .unset] [(.ref b1)]) _
  refine go1 (fun _ => XS.dup X1.here hx rfl (hb hby at_7) rfl rfl) ?_
  show Go p.tables e below T1 (mkF m 8 #[.val (.int p1), .val (.int p2), .val (.int (p1 &&& (3 : Int32))), .unset, .unset, .unset, .unset, .unset, .unset, .unset, .unset] [(.ref b1), (.ref b1)]) _
  refine go1 (fun _ => XS.iconst X1.here hx rfl (hb hby at_8)) ?_
  show Go p.tables e below T1 (mkF m 9 #[.val (.int p1), .val (.int p2), .val (.int (p1 &&& (3 : Int32))), .unset, .unset, .unset, .unset, .unset, .unset, .unset, .unset] [(.int (1 : Int32)), (.ref b1), (.ref b1)]) _
  obtain ⟨_, _, ⟨T2, L2, k2, n2⟩, -, X2, ⟨Lc2, hQ2, l2, y2, z2⟩, st2⟩ := Jvm.LawKit.callS X1 hx (y := (⟨"java/lang/Integer", "valueOf", "(I)Ljava/lang/Integer;"⟩ : MethodName)) hown (mvT hZ (hw _ (List.mem_of_getElem? (i := 3) rfl))) (mvT hZ (hw _ (List.mem_of_getElem? (i := 4) rfl))) (mvT hZ (hw _ (List.mem_of_getElem? (i := 5) rfl))) (mvT hZ (hw _ (List.mem_of_getElem? (i := 6) rfl))) (by decide) (backOf (W := 2) (rm1 l Z a0 hw [] (1 : Int32) a_cache h1 n0 (Nat.le_trans Z0 E1.1) (O0.ext E1) S_high S_cache BX_a_cache) hZ (hw _ (List.mem_of_getElem? (i := 6) rfl)) (hw _ (List.mem_of_getElem? (i := 5) rfl)) (by decide) (by decide)) (g := (mkF m 9 #[.val (.int p1), .val (.int p2), .val (.int (p1 &&& (3 : Int32))), .unset, .unset, .unset, .unset, .unset, .unset, .unset, .unset] [(.int (1 : Int32)), (.ref b1), (.ref b1)])) rfl (by rw [hml]; rfl) (argsL := [(.int (1 : Int32))]) (rest := [(.ref b1), (.ref b1)]) (lenOf pd0_0 rfl) rfl (by show 2 * 0 + _ ≤ _; exact Nat.le_of_eq rfl) (hb hby at_9) (fun _ _ => ⟨rfl, e1, (by decide : 1 + 1 ≤ _), (by decide : 5 + 1 ≤ _)⟩)
  dsimp only [Pt.U, Pt.locs, Pt.cells, Pt.slots] at X2 l2 y2 z2 st2 hQ2
  subst l2 y2 z2
  obtain ⟨b3, rfl, N2q, K2, G2_0, G2_1⟩ := hQ2
  have N2 := Fr.app N0 N2q
  refine go1 st2 ?_
  show Go p.tables e below T2 (mkF m 12 #[.val (.int p1), .val (.int p2), .val (.int (p1 &&& (3 : Int32))), .unset, .unset, .unset, .unset, .unset, .unset, .unset, .unset] [(.ref b3), (.ref b1), (.ref b1)]) _
  refine go1 (fun _ => XS.iloadN X2.here hx rfl (hb hby at_12) rfl) ?_
  show Go p.tables e below T2 (mkF m 13 #[.val (.int p1), .val (.int p2), .val (.int (p1 &&& (3 : Int32))), .unset, .unset, .unset, .unset, .unset, .unset, .unset, .unset] [(.int p1), (.ref b3), (.ref b1), (.ref b1)]) _
  obtain ⟨_, _, ⟨T4, L4, k4, n4⟩, -, X4, ⟨Lc4, hQ4, l4, y4, z4⟩, st4⟩ := Jvm.LawKit.callS X2 hx (y := (⟨"java/lang/Integer", "valueOf", "(I)Ljava/lang/Integer;"⟩ : MethodName)) hown (mvT hZ (hw _ (List.mem_of_getElem? (i := 3) rfl))) (mvT hZ (hw _ (List.mem_of_getElem? (i := 4) rfl))) (mvT hZ (hw _ (List.mem_of_getElem? (i := 5) rfl))) (mvT hZ (hw _ (List.mem_of_getElem? (i := 6) rfl))) (by decide) (backOf (W := 3) (rm1 l Z a0 hw [] p1 a_cache T2.heap n0 (Nat.le_trans (Nat.le_trans Z0 E1.1) K2.1) ((O0.ext E1).keep K2 all0) S_high S_cache BX_a_cache) hZ (hw _ (List.mem_of_getElem? (i := 6) rfl)) (hw _ (List.mem_of_getElem? (i := 5) rfl)) (by decide) (by decide)) (g := (mkF m 13 #[.val (.int p1), .val (.int p2), .val (.int (p1 &&& (3 : Int32))), .unset, .unset, .unset, .unset, .unset, .unset, .unset, .unset] [(.int p1), (.ref b3), (.ref b1), (.ref b1)])) rfl (by rw [hml]; rfl) (argsL := [(.int p1)]) (rest := [(.ref b3), (.ref b1), (.ref b1)]) (lenOf pd0_0 rfl) rfl (by show 2 * 0 + _ ≤ _; exact Nat.le_of_eq rfl) (hb hby at_13) (fun _ _ => ⟨rfl, rfl, (by decide : 2 + 1 ≤ _), (by decide : 6 + 1 ≤ _)⟩)
  dsimp only [Pt.U, Pt.locs, Pt.cells, Pt.slots] at X4 l4 y4 z4 st4 hQ4
  subst l4 y4 z4
  obtain ⟨b5, rfl, N4q, K4, G4_0, G4_1⟩ := hQ4
  have N4 := Fr.app N2 N4q
  refine go1 st4 ?_
  show Go p.tables e below T4 (mkF m 16 #[.val (.int p1), .val (.int p2), .val (.int (p1 &&& (3 : Int32))), .unset, .unset, .unset, .unset, .unset, .unset, .unset, .unset] [(.ref b5), (.ref b3), (.ref b1), (.ref b1)]) _
  obtain ⟨_, _, ⟨T6, L6, k6, n6⟩, -, X6, ⟨Lc6, hQ6, l6, y6, z6⟩, st6⟩ := X4.specialBack hx (y := (⟨"com/example/carmine/carmine/Node", "<init>", "(Ljava/lang/Object;Ljava/lang/Object;)V"⟩ : MethodName)) rfl hown (mvT hZ (hw _ (List.mem_of_getElem? (i := 10) rfl))) (mvT hZ (hw _ (List.mem_of_getElem? (i := 11) rfl))) (mvT hZ (hw _ (List.mem_of_getElem? (i := 12) rfl))) (by decide) (backOf (W := 1) (rm2a l Z a0 hw [] b1 b3 b5 T4.heap n0 (Nat.le_trans (Nat.le_trans (Nat.le_trans Z0 E1.1) K2.1) K4.1) ((F_key_b1.keep K2 nin0).keep K4 nin0) ((F_value_b1.keep K2 nin0).keep K4 nin0) ((F_left_b1.keep K2 nin0).keep K4 nin0) ((F_right_b1.keep K2 nin0).keep K4 nin0) ((F_sizeAndColours_b1.keep K2 nin0).keep K4 nin0) ((A1.keep K2).keep K4) g_b1) hZ (hw _ (List.mem_of_getElem? (i := 12) rfl)) (hw _ (List.mem_of_getElem? (i := 2) rfl)) (by decide) (by decide)) (g := (mkF m 16 #[.val (.int p1), .val (.int p2), .val (.int (p1 &&& (3 : Int32))), .unset, .unset, .unset, .unset, .unset, .unset, .unset, .unset] [(.ref b5), (.ref b3), (.ref b1), (.ref b1)])) rfl (by rw [hml]; rfl) (Steps.refl _) (a := b1) (argsL := [(.ref b3), (.ref b5)]) (rest := [(.ref b1)]) (lenOf pd0_1 rfl) rfl (by show 2 * 0 + _ ≤ _; exact Nat.le_of_eq rfl) (hb hby at_16) (fun _ _ => ⟨rfl, rfl, (by decide : 3 + 0 ≤ _), (by decide : 7 + 0 ≤ _)⟩)
  dsimp only [Pt.U, Pt.locs, Pt.cells, Pt.slots] at X6 l6 y6 z6 st6 hQ6
  subst l6 y6 z6
  obtain ⟨rfl, N6q, K6, G6_0, G6_1, G6_2, G6_3⟩ := hQ6
  have N6 := Fr.app N4 N6q
  refine goT st6 ?_
  show Go p.tables e below T6 (mkF m 19 #[.val (.int p1), .val (.int p2), .val (.int (p1 &&& (3 : Int32))), .unset, .unset, .unset, .unset, .unset, .unset, .unset, .unset] [(.ref b1)]) _
  refine go1 (fun _ => XS.astoreN X6.here hx rfl (hb hby at_19) rfl rfl (l' := #[.val (.int p1), .val (.int p2), .val (.int (p1 &&& (3 : Int32))), .val (.ref b1), .unset, .unset, .unset, .unset, .unset, .unset, .unset]) rfl) ?_
  show Go p.tables e below T6 (mkF m 20 #[.val (.int p1), .val (.int p2), .val (.int (p1 &&& (3 : Int32))), .val (.ref b1), .unset, .unset, .unset, .unset, .unset, .unset, .unset] []) _
  obtain ⟨T7, h7, X7, e7, E7, A7, D7, -, st7⟩ := newO X6 hx hZ hown (hw _ (List.mem_of_getElem? (i := 0) rfl)) (hw _ (List.mem_of_getElem? (i := 1) rfl)) (hw _ (List.mem_of_getElem? (i := 2) rfl)) rfl (g := (mkF m 20 #[.val (.int p1), .val (.int p2), .val (.int (p1 &&& (3 : Int32))), .val (.ref b1), .unset, .unset, .unset, .unset, .unset, .unset, .unset] [])) rfl (hb hby at_20) (by decide) (by decide)
  obtain ⟨b7, g7⟩ : ∃ z, z = T6.heap.size := ⟨_, rfl⟩
  rw [← g7] at A7 D7 st7
  have g_b7 : n0 ≤ b7 := Nat.le_trans (Nat.le_trans (Nat.le_trans (Nat.le_trans (Nat.le_trans Z0 E1.1) K2.1) K4.1) K6.1) (Nat.le_of_eq g7.symm)
  have F_key_b7 : Fld Z h7 b7 "com/example/carmine/carmine/Node" "key" "Ljava/lang/Object;" .null := D7 (Or.inl (hw _ (List.mem_of_getElem? (i := 17) rfl))) (ty := (.object "java/lang/Object")) (by decide)
  have F_value_b7 : Fld Z h7 b7 "com/example/carmine/carmine/Node" "value" "Ljava/lang/Object;" .null := D7 (Or.inl (hw _ (List.mem_of_getElem? (i := 19) rfl))) (ty := (.object "java/lang/Object")) (by decide)
  have F_sizeAndColours_b7 : Fld Z h7 b7 "com/example/carmine/carmine/Node" "sizeAndColours" "I" (.int (0 : Int32)) := D7 (Or.inl (hw _ (List.mem_of_getElem? (i := 21) rfl))) (ty := .int) (by decide)
  have F_right_b7 : Fld Z h7 b7 "com/example/carmine/carmine/Node" "right" "Lcom/example/carmine/carmine/Node;" .null := D7 (Or.inl (hw _ (List.mem_of_getElem? (i := 27) rfl))) (ty := (.object "com/example/carmine/carmine/Node")) (by decide)
  have F_left_b7 : Fld Z h7 b7 "com/example/carmine/carmine/Node" "left" "Lcom/example/carmine/carmine/Node;" .null := D7 (Or.inl (hw _ (List.mem_of_getElem? (i := 109) rfl))) (ty := (.object "com/example/carmine/carmine/Node")) (by decide)
  refine go1 st7 ?_
  show Go p.tables e below T7 (mkF m 23 #[.val (.int p1), .val (.int p2), .val (.int (p1 &&& (3 : Int32))), .val (.ref b1), .unset, .unset, .unset, .unset, .unset, .unset, .unset] [(.ref b7)]) _
  refine go1 (fun _ => XS.dup X7.here hx rfl (hb hby at_23) rfl rfl) ?_
  show Go p.tables e below T7 (mkF m 24 #[.val (.int p1), .val (.int p2), .val (.int (p1 &&& (3 : Int32))), .val (.ref b1), .unset, .unset, .unset, .unset, .unset, .unset, .unset] [(.ref b7), (.ref b7)]) _
  refine go1 (fun _ => XS.iconst X7.here hx rfl (hb hby at_24)) ?_
  show Go p.tables e below T7 (mkF m 25 #[.val (.int p1), .val (.int p2), .val (.int (p1 &&& (3 : Int32))), .val (.ref b1), .unset, .unset, .unset, .unset, .unset, .unset, .unset] [(.int (2 : Int32)), (.ref b7), (.ref b7)]) _
  obtain ⟨_, _, ⟨T8, L8, k8, n8⟩, -, X8, ⟨Lc8, hQ8, l8, y8, z8⟩, st8⟩ := Jvm.LawKit.callS X7 hx (y := (⟨"java/lang/Integer", "valueOf", "(I)Ljava/lang/Integer;"⟩ : MethodName)) hown (mvT hZ (hw _ (List.mem_of_getElem? (i := 3) rfl))) (mvT hZ (hw _ (List.mem_of_getElem? (i := 4) rfl))) (mvT hZ (hw _ (List.mem_of_getElem? (i := 5) rfl))) (mvT hZ (hw _ (List.mem_of_getElem? (i := 6) rfl))) (by decide) (backOf (W := 2) (rm1 l Z a0 hw [] (2 : Int32) a_cache h7 n0 (Nat.le_trans (Nat.le_trans (Nat.le_trans (Nat.le_trans (Nat.le_trans Z0 E1.1) K2.1) K4.1) K6.1) E7.1) (((((O0.ext E1).keep K2 all0).keep K4 all0).keep K6 (allS g_b1 all0)).ext E7) S_high S_cache BX_a_cache) hZ (hw _ (List.mem_of_getElem? (i := 6) rfl)) (hw _ (List.mem_of_getElem? (i := 5) rfl)) (by decide) (by decide)) (g := (mkF m 25 #[.val (.int p1), .val (.int p2), .val (.int (p1 &&& (3 : Int32))), .val (.ref b1), .unset, .unset, .unset, .unset, .unset, .unset, .unset] [(.int (2 : Int32)), (.ref b7), (.ref b7)])) rfl (by rw [hml]; rfl) (argsL := [(.int (2 : Int32))]) (rest := [(.ref b7), (.ref b7)]) (lenOf pd0_0 rfl) rfl (by show 2 * 0 + _ ≤ _; exact Nat.le_of_eq rfl) (hb hby at_25) (fun _ _ => ⟨rfl, e7, (by decide : 4 + 1 ≤ _), (by decide : 12 + 1 ≤ _)⟩)
  dsimp only [Pt.U, Pt.locs, Pt.cells, Pt.slots] at X8 l8 y8 z8 st8 hQ8
  subst l8 y8 z8
  obtain ⟨b9, rfl, N8q, K8, G8_0, G8_1⟩ := hQ8
  have N8 := Fr.app N6 N8q
  refine go1 st8 ?_
  show Go p.tables e below T8 (mkF m 28 #[.val (.int p1), .val (.int p2), .val (.int (p1 &&& (3 : Int32))), .val (.ref b1), .unset, .unset, .unset, .unset, .unset, .unset, .unset] [(.ref b9), (.ref b7), (.ref b7)]) _
  refine go1 (fun _ => XS.iloadN X8.here hx rfl (hb hby at_28) rfl) ?_
  show Go p.tables e below T8 (mkF m 29 #[.val (.int p1), .val (.int p2), .val (.int (p1 &&& (3 : Int32))), .val (.ref b1), .unset, .unset, .unset, .unset, .unset, .unset, .unset] [(.int p2), (.ref b9), (.ref b7), (.ref b7)]) _
  obtain ⟨_, _, ⟨T10, L10, k10, n10⟩, -, X10, ⟨Lc10, hQ10, l10, y10, z10⟩, st10⟩ := Jvm.LawKit.callS X8 hx (y := (⟨"java/lang/Integer", "valueOf", "(I)Ljava/lang/Integer;"⟩ : MethodName)) hown (mvT hZ (hw _ (List.mem_of_getElem? (i := 3) rfl))) (mvT hZ (hw _ (List.mem_of_getElem? (i := 4) rfl))) (mvT hZ (hw _ (List.mem_of_getElem? (i := 5) rfl))) (mvT hZ (hw _ (List.mem_of_getElem? (i := 6) rfl))) (by decide) (backOf (W := 3) (rm1 l Z a0 hw [] p2 a_cache T8.heap n0 (Nat.le_trans (Nat.le_trans (Nat.le_trans (Nat.le_trans (Nat.le_trans (Nat.le_trans Z0 E1.1) K2.1) K4.1) K6.1) E7.1) K8.1) ((((((O0.ext E1).keep K2 all0).keep K4 all0).keep K6 (allS g_b1 all0)).ext E7).keep K8 all0) S_high S_cache BX_a_cache) hZ (hw _ (List.mem_of_getElem? (i := 6) rfl)) (hw _ (List.mem_of_getElem? (i := 5) rfl)) (by decide) (by decide)) (g := (mkF m 29 #[.val (.int p1), .val (.int p2), .val (.int (p1 &&& (3 : Int32))), .val (.ref b1), .unset, .unset, .unset, .unset, .unset, .unset, .unset] [(.int p2), (.ref b9), (.ref b7), (.ref b7)])) rfl (by rw [hml]; rfl) (argsL := [(.int p2)]) (rest := [(.ref b9), (.ref b7), (.ref b7)]) (lenOf pd0_0 rfl) rfl (by show 2 * 0 + _ ≤ _; exact Nat.le_of_eq rfl) (hb hby at_29) (fun _ _ => ⟨rfl, rfl, (by decide : 5 + 1 ≤ _), (by decide : 13 + 1 ≤ _)⟩)
  dsimp only [Pt.U, Pt.locs, Pt.cells, Pt.slots] at X10 l10 y10 z10 st10 hQ10
  subst l10 y10 z10
  obtain ⟨b11, rfl, N10q, K10, G10_0, G10_1⟩ := hQ10
  have N10 := Fr.app N8 N10q
  refine go1 st10 ?_
  show Go p.tables e below T10 (mkF m 32 #[.val (.int p1), .val (.int p2), .val (.int (p1 &&& (3 : Int32))), .val (.ref b1), .unset, .unset, .unset, .unset, .unset, .unset, .unset] [(.ref b11), (.ref b9), (.ref b7), (.ref b7)]) _
  obtain ⟨_, _, ⟨T12, L12, k12, n12⟩, -, X12, ⟨Lc12, hQ12, l12, y12, z12⟩, st12⟩ := X10.specialBack hx (y := (⟨"com/example/carmine/carmine/Node", "<init>", "(Ljava/lang/Object;Ljava/lang/Object;)V"⟩ : MethodName)) rfl hown (mvT hZ (hw _ (List.mem_of_getElem? (i := 10) rfl))) (mvT hZ (hw _ (List.mem_of_getElem? (i := 11) rfl))) (mvT hZ (hw _ (List.mem_of_getElem? (i := 12) rfl))) (by decide) (backOf (W := 1) (rm2a l Z a0 hw [] b7 b9 b11 T10.heap n0 (Nat.le_trans (Nat.le_trans (Nat.le_trans (Nat.le_trans (Nat.le_trans (Nat.le_trans (Nat.le_trans Z0 E1.1) K2.1) K4.1) K6.1) E7.1) K8.1) K10.1) ((F_key_b7.keep K8 nin0).keep K10 nin0) ((F_value_b7.keep K8 nin0).keep K10 nin0) ((F_left_b7.keep K8 nin0).keep K10 nin0) ((F_right_b7.keep K8 nin0).keep K10 nin0) ((F_sizeAndColours_b7.keep K8 nin0).keep K10 nin0) ((A7.keep K8).keep K10) g_b7) hZ (hw _ (List.mem_of_getElem? (i := 12) rfl)) (hw _ (List.mem_of_getElem? (i := 2) rfl)) (by decide) (by decide)) (g := (mkF m 32 #[.val (.int p1), .val (.int p2), .val (.int (p1 &&& (3 : Int32))), .val (.ref b1), .unset, .unset, .unset, .unset, .unset, .unset, .unset] [(.ref b11), (.ref b9), (.ref b7), (.ref b7)])) rfl (by rw [hml]; rfl) (Steps.refl _) (a := b7) (argsL := [(.ref b9), (.ref b11)]) (rest := [(.ref b7)]) (lenOf pd0_1 rfl) rfl (by show 2 * 0 + _ ≤ _; exact Nat.le_of_eq rfl) (hb hby at_32) (fun _ _ => ⟨rfl, rfl, (by decide : 6 + 0 ≤ _), (by decide : 14 + 0 ≤ _)⟩)
  dsimp only [Pt.U, Pt.locs, Pt.cells, Pt.slots] at X12 l12 y12 z12 st12 hQ12
  subst l12 y12 z12
  obtain ⟨rfl, N12q, K12, G12_0, G12_1, G12_2, G12_3⟩ := hQ12
  have N12 := Fr.app N10 N12q
  refine goT st12 ?_
  show Go p.tables e below T12 (mkF m 35 #[.val (.int p1), .val (.int p2), .val (.int (p1 &&& (3 : Int32))), .val (.ref b1), .unset, .unset, .unset, .unset, .unset, .unset, .unset] [(.ref b7)]) _
  refine go1 (fun _ => XS.astore X12.here hx rfl (hb hby at_35) rfl rfl (l' := #[.val (.int p1), .val (.int p2), .val (.int (p1 &&& (3 : Int32))), .val (.ref b1), .val (.ref b7), .unset, .unset, .unset, .unset, .unset, .unset]) rfl) ?_
  show Go p.tables e below T12 (mkF m 37 #[.val (.int p1), .val (.int p2), .val (.int (p1 &&& (3 : Int32))), .val (.ref b1), .val (.ref b7), .unset, .unset, .unset, .unset, .unset, .unset] []) _
  obtain ⟨T13, h13, X13, e13, E13, A13, D13, -, st13⟩ := newO X12 hx hZ hown (hw _ (List.mem_of_getElem? (i := 0) rfl)) (hw _ (List.mem_of_getElem? (i := 1) rfl)) (hw _ (List.mem_of_getElem? (i := 2) rfl)) rfl (g := (mkF m 37 #[.val (.int p1), .val (.int p2), .val (.int (p1 &&& (3 : Int32))), .val (.ref b1), .val (.ref b7), .unset, .unset, .unset, .unset, .unset, .unset] [])) rfl (hb hby at_37) (by decide) (by decide)
  obtain ⟨b13, g13⟩ : ∃ z, z = T12.heap.size := ⟨_, rfl⟩
  rw [← g13] at A13 D13 st13
  have g_b13 : n0 ≤ b13 := Nat.le_trans (Nat.le_trans (Nat.le_trans (Nat.le_trans (Nat.le_trans (Nat.le_trans (Nat.le_trans (Nat.le_trans (Nat.le_trans Z0 E1.1) K2.1) K4.1) K6.1) E7.1) K8.1) K10.1) K12.1) (Nat.le_of_eq g13.symm)
  have F_key_b13 : Fld Z h13 b13 "com/example/carmine/carmine/Node" "key" "Ljava/lang/Object;" .null := D13 (Or.inl (hw _ (List.mem_of_getElem? (i := 17) rfl))) (ty := (.object "java/lang/Object")) (by decide)
  have F_value_b13 : Fld Z h13 b13 "com/example/carmine/carmine/Node" "value" "Ljava/lang/Object;" .null := D13 (Or.inl (hw _ (List.mem_of_getElem? (i := 19) rfl))) (ty := (.object "java/lang/Object")) (by decide)
  have F_sizeAndColours_b13 : Fld Z h13 b13 "com/example/carmine/carmine/Node" "sizeAndColours" "I" (.int (0 : Int32)) := D13 (Or.inl (hw _ (List.mem_of_getElem? (i := 21) rfl))) (ty := .int) (by decide)
  have F_right_b13 : Fld Z h13 b13 "com/example/carmine/carmine/Node" "right" "Lcom/example/carmine/carmine/Node;" .null := D13 (Or.inl (hw _ (List.mem_of_getElem? (i := 27) rfl))) (ty := (.object "com/example/carmine/carmine/Node")) (by decide)
  have F_left_b13 : Fld Z h13 b13 "com/example/carmine/carmine/Node" "left" "Lcom/example/carmine/carmine/Node;" .null := D13 (Or.inl (hw _ (List.mem_of_getElem? (i := 109) rfl))) (ty := (.object "com/example/carmine/carmine/Node")) (by decide)
  refine go1 st13 ?_
  show Go p.tables e below T13 (mkF m 40 #[.val (.int p1), .val (.int p2), .val (.int (p1 &&& (3 : Int32))), .val (.ref b1), .val (.ref b7), .unset, .unset, .unset, .unset, .unset, .unset] [(.ref b13)]) _
  refine go1 (fun _ => XS.dup X13.here hx rfl (hb hby at_40) rfl rfl) ?_
  show Go p.tables e below T13 (mkF m 41 #[.val (.int p1), .val (.int p2), .val (.int (p1 &&& (3 : Int32))), .val (.ref b1), .val (.ref b7), .unset, .unset, .unset, .unset, .unset, .unset] [(.ref b13), (.ref b13)]) _
  refine go1 (fun _ => XS.iconst X13.here hx rfl (hb hby at_41)) ?_
  show Go p.tables e below T13 (mkF m 42 #[.val (.int p1), .val (.int p2), .val (.int (p1 &&& (3 : Int32))), .val (.ref b1), .val (.ref b7), .unset, .unset, .unset, .unset, .unset, .unset] [(.int (3 : Int32)), (.ref b13), (.ref b13)]) _
  obtain ⟨_, _, ⟨T14, L14, k14, n14⟩, -, X14, ⟨Lc14, hQ14, l14, y14, z14⟩, st14⟩ := Jvm.LawKit.callS X13 hx (y := (⟨"java/lang/Integer", "valueOf", "(I)Ljava/lang/Integer;"⟩ : MethodName)) hown (mvT hZ (hw _ (List.mem_of_getElem? (i := 3) rfl))) (mvT hZ (hw _ (List.mem_of_getElem? (i := 4) rfl))) (mvT hZ (hw _ (List.mem_of_getElem? (i := 5) rfl))) (mvT hZ (hw _ (List.mem_of_getElem? (i := 6) rfl))) (by decide) (backOf (W := 2) (rm1 l Z a0 hw [] (3 : Int32) a_cache h13 n0 (Nat.le_trans (Nat.le_trans (Nat.le_trans (Nat.le_trans (Nat.le_trans (Nat.le_trans (Nat.le_trans (Nat.le_trans (Nat.le_trans Z0 E1.1) K2.1) K4.1) K6.1) E7.1) K8.1) K10.1) K12.1) E13.1) (((((((((O0.ext E1).keep K2 all0).keep K4 all0).keep K6 (allS g_b1 all0)).ext E7).keep K8 all0).keep K10 all0).keep K12 (allS g_b7 all0)).ext E13) S_high S_cache BX_a_cache) hZ (hw _ (List.mem_of_getElem? (i := 6) rfl)) (hw _ (List.mem_of_getElem? (i := 5) rfl)) (by decide) (by decide)) (g := (mkF m 42 #[.val (.int p1), .val (.int p2), .val (.int (p1 &&& (3 : Int32))), .val (.ref b1), .val (.ref b7), .unset, .unset, .unset, .unset, .unset, .unset] [(.int (3 : Int32)), (.ref b13), (.ref b13)])) rfl (by rw [hml]; rfl) (argsL := [(.int (3 : Int32))]) (rest := [(.ref b13), (.ref b13)]) (lenOf pd0_0 rfl) rfl (by show 2 * 0 + _ ≤ _; exact Nat.le_of_eq rfl) (hb hby at_42) (fun _ _ => ⟨rfl, e13, (by decide : 7 + 1 ≤ _), (by decide : 19 + 1 ≤ _)⟩)
  dsimp only [Pt.U, Pt.locs, Pt.cells, Pt.slots] at X14 l14 y14 z14 st14 hQ14
  subst l14 y14 z14
  obtain ⟨b15, rfl, N14q, K14, G14_0, G14_1⟩ := hQ14
  have N14 := Fr.app N12 N14q
  refine go1 st14 ?_
  show Go p.tables e below T14 (mkF m 45 #[.val (.int p1), .val (.int p2), .val (.int (p1 &&& (3 : Int32))), .val (.ref b1), .val (.ref b7), .unset, .unset, .unset, .unset, .unset, .unset] [(.ref b15), (.ref b13), (.ref b13)]) _
  refine go1 (fun _ => XS.aconstNull X14.here hx rfl (hb hby at_45)) ?_
  show Go p.tables e below T14 (mkF m 46 #[.val (.int p1), .val (.int p2), .val (.int (p1 &&& (3 : Int32))), .val (.ref b1), .val (.ref b7), .unset, .unset, .unset, .unset, .unset, .unset] [.null, (.ref b15), (.ref b13), (.ref b13)]) _
  obtain ⟨_, _, ⟨T16, L16, k16, n16⟩, -, X16, ⟨Lc16, hQ16, l16, y16, z16⟩, st16⟩ := X14.specialBack hx (y := (⟨"com/example/carmine/carmine/Node", "<init>", "(Ljava/lang/Object;Ljava/lang/Object;)V"⟩ : MethodName)) rfl hown (mvT hZ (hw _ (List.mem_of_getElem? (i := 10) rfl))) (mvT hZ (hw _ (List.mem_of_getElem? (i := 11) rfl))) (mvT hZ (hw _ (List.mem_of_getElem? (i := 12) rfl))) (by decide) (backOf (W := 1) (rm2b l Z a0 hw [] b13 b15 T14.heap n0 (Nat.le_trans (Nat.le_trans (Nat.le_trans (Nat.le_trans (Nat.le_trans (Nat.le_trans (Nat.le_trans (Nat.le_trans (Nat.le_trans (Nat.le_trans Z0 E1.1) K2.1) K4.1) K6.1) E7.1) K8.1) K10.1) K12.1) E13.1) K14.1) (F_key_b13.keep K14 nin0) (F_value_b13.keep K14 nin0) (F_left_b13.keep K14 nin0) (F_right_b13.keep K14 nin0) (F_sizeAndColours_b13.keep K14 nin0) (A13.keep K14) g_b13) hZ (hw _ (List.mem_of_getElem? (i := 12) rfl)) (hw _ (List.mem_of_getElem? (i := 2) rfl)) (by decide) (by decide)) (g := (mkF m 46 #[.val (.int p1), .val (.int p2), .val (.int (p1 &&& (3 : Int32))), .val (.ref b1), .val (.ref b7), .unset, .unset, .unset, .unset, .unset, .unset] [.null, (.ref b15), (.ref b13), (.ref b13)])) rfl (by rw [hml]; rfl) (Steps.refl _) (a := b13) (argsL := [(.ref b15), .null]) (rest := [(.ref b13)]) (lenOf pd0_1 rfl) rfl (by show 2 * 0 + _ ≤ _; exact Nat.le_of_eq rfl) (hb hby at_46) (fun _ _ => ⟨rfl, rfl, (by decide : 8 + 0 ≤ _), (by decide : 20 + 0 ≤ _)⟩)
  dsimp only [Pt.U, Pt.locs, Pt.cells, Pt.slots] at X16 l16 y16 z16 st16 hQ16
  subst l16 y16 z16
  obtain ⟨rfl, N16q, K16, G16_0, G16_1, G16_2, G16_3⟩ := hQ16
  have N16 := Fr.app N14 N16q
  refine goT st16 ?_
  show Go p.tables e below T16 (mkF m 49 #[.val (.int p1), .val (.int p2), .val (.int (p1 &&& (3 : Int32))), .val (.ref b1), .val (.ref b7), .unset, .unset, .unset, .unset, .unset, .unset] [(.ref b13)]) _
  refine go1 (fun _ => XS.astore X16.here hx rfl (hb hby at_49) rfl rfl (l' := #[.val (.int p1), .val (.int p2), .val (.int (p1 &&& (3 : Int32))), .val (.ref b1), .val (.ref b7), .val (.ref b13), .unset, .unset, .unset, .unset, .unset]) rfl) ?_
  show Go p.tables e below T16 (mkF m 51 #[.val (.int p1), .val (.int p2), .val (.int (p1 &&& (3 : Int32))), .val (.ref b1), .val (.ref b7), .val (.ref b13), .unset, .unset, .unset, .unset, .unset] []) _
  refine go1 (fun _ => XS.aloadN X16.here hx rfl (hb hby at_51) rfl rfl) ?_
  show Go p.tables e below T16 (mkF m 52 #[.val (.int p1), .val (.int p2), .val (.int (p1 &&& (3 : Int32))), .val (.ref b1), .val (.ref b7), .val (.ref b13), .unset, .unset, .unset, .unset, .unset] [(.ref b1)]) _
  refine go1 (fun _ => XS.iloadN X16.here hx rfl (hb hby at_52) rfl) ?_
  show Go p.tables e below T16 (mkF m 53 #[.val (.int p1), .val (.int p2), .val (.int (p1 &&& (3 : Int32))), .val (.ref b1), .val (.ref b7), .val (.ref b13), .unset, .unset, .unset, .unset, .unset] [(.int p2), (.ref b1)]) _
  refine go1 (fun _ => XS.aloadN X16.here hx rfl (hb hby at_53) rfl rfl) ?_
  show Go p.tables e below T16 (mkF m 54 #[.val (.int p1), .val (.int p2), .val (.int (p1 &&& (3 : Int32))), .val (.ref b1), .val (.ref b7), .val (.ref b13), .unset, .unset, .unset, .unset, .unset] [(.ref b1), (.int p2), (.ref b1)]) _
  refine go1 (fun _ => XS.aload X16.here hx rfl (hb hby at_54) rfl rfl) ?_
  show Go p.tables e below T16 (mkF m 56 #[.val (.int p1), .val (.int p2), .val (.int (p1 &&& (3 : Int32))), .val (.ref b1), .val (.ref b7), .val (.ref b13), .unset, .unset, .unset, .unset, .unset] [(.ref b7), (.ref b1), (.int p2), (.ref b1)]) _
  refine go1 (fun _ => XS.aload X16.here hx rfl (hb hby at_56) rfl rfl) ?_
  show Go p.tables e below T16 (mkF m 58 #[.val (.int p1), .val (.int p2), .val (.int (p1 &&& (3 : Int32))), .val (.ref b1), .val (.ref b7), .val (.ref b13), .unset, .unset, .unset, .unset, .unset] [(.ref b13), (.ref b7), (.ref b1), (.int p2), (.ref b1)]) _
  obtain ⟨_, _, ⟨T17, L17, k17, n17⟩, -, X17, ⟨Lc17, hQ17, l17, y17, z17⟩, st17⟩ := Jvm.LawKit.callS X16 hx (y := (⟨"com/example/carmine/carmine/LinksAddPinLaw", "pick", "(ILcom/example/carmine/carmine/Node;Lcom/example/carmine/carmine/Node;Lcom/example/carmine/carmine/Node;)Lcom/example/carmine/carmine/Node;"⟩ : MethodName)) hown (mvT hZ (hw _ (List.mem_of_getElem? (i := 22) rfl))) (mvT hZ (hw _ (List.mem_of_getElem? (i := 23) rfl))) (mvT hZ (hw _ (List.mem_of_getElem? (i := 24) rfl))) (mvT hZ (hw _ (List.mem_of_getElem? (i := 25) rfl))) (by decide) (backOf (W := 1) (rm4 l Z a0 hw [] p2 b1 b7 b13 T16.heap n0 (Nat.le_trans (Nat.le_trans (Nat.le_trans (Nat.le_trans (Nat.le_trans (Nat.le_trans (Nat.le_trans (Nat.le_trans (Nat.le_trans (Nat.le_trans (Nat.le_trans Z0 E1.1) K2.1) K4.1) K6.1) E7.1) K8.1) K10.1) K12.1) E13.1) K14.1) K16.1) ) hZ (hw _ (List.mem_of_getElem? (i := 25) rfl)) (hw _ (List.mem_of_getElem? (i := 24) rfl)) (by decide) (by decide)) (g := (mkF m 58 #[.val (.int p1), .val (.int p2), .val (.int (p1 &&& (3 : Int32))), .val (.ref b1), .val (.ref b7), .val (.ref b13), .unset, .unset, .unset, .unset, .unset] [(.ref b13), (.ref b7), (.ref b1), (.int p2), (.ref b1)])) rfl (by rw [hml]; rfl) (argsL := [(.int p2), (.ref b1), (.ref b7), (.ref b13)]) (rest := [(.ref b1)]) (lenOf pd0_2 rfl) rfl (by show 2 * 0 + _ ≤ _; exact Nat.le_of_eq rfl) (hb hby at_58) (fun _ _ => ⟨rfl, rfl, (by decide : 8 + 0 ≤ _), (by decide : 20 + 0 ≤ _)⟩)
  dsimp only [Pt.U, Pt.locs, Pt.cells, Pt.slots] at X17 l17 y17 z17 st17 hQ17
  subst l17 y17 z17
  obtain ⟨u18, rfl, N17q, e17, G17_0⟩ := hQ17
  have N17 := Fr.app N16 N17q
  refine go1 st17 ?_
  show Go p.tables e below T17 (mkF m 61 #[.val (.int p1), .val (.int p2), .val (.int (p1 &&& (3 : Int32))), .val (.ref b1), .val (.ref b7), .val (.ref b13), .unset, .unset, .unset, .unset, .unset] [u18, (.ref b1)]) _
  obtain ⟨T19, h19, X19, e19, W19, st19⟩ := putF X17 hx hZ hown (host := "") (Or.inl (hw _ (List.mem_of_getElem? (i := 26) rfl))) Via.refl e17 (((((((G6_2.ext E7).keep K8 nin0).keep K10 nin0).keep K12 (ninS (Nat.ne_of_lt (Nat.lt_of_lt_of_le G6_3.lt (Nat.le_of_eq g7.symm))) nin0)).ext E13).keep K14 nin0).keep K16 (ninS (Nat.ne_of_lt (Nat.lt_of_lt_of_le ((((G6_3.ext E7).keep K8 nin0).keep K10 nin0).keep K12 (ninS (Nat.ne_of_lt (Nat.lt_of_lt_of_le G6_3.lt (Nat.le_of_eq g7.symm))) nin0)).lt (Nat.le_of_eq g13.symm))) nin0)) (((((((G6_0.ext E7).keep K8).keep K10).keep K12).ext E13).keep K14).keep K16) (Or.inl (hw _ (List.mem_of_getElem? (i := 27) rfl))) (hw _ (List.mem_of_getElem? (i := 1) rfl)) (ty := (.object "com/example/carmine/carmine/Node")) (by decide) rfl (fitsG G17_0) (g := (mkF m 61 #[.val (.int p1), .val (.int p2), .val (.int (p1 &&& (3 : Int32))), .val (.ref b1), .val (.ref b7), .val (.ref b13), .unset, .unset, .unset, .unset, .unset] [u18, (.ref b1)])) rfl rfl (hb hby at_61)
  refine go1 st19 ?_
  have Fw19 := (((((((G6_2.ext E7).keep K8 nin0).keep K10 nin0).keep K12 (ninS (Nat.ne_of_lt (Nat.lt_of_lt_of_le G6_3.lt (Nat.le_of_eq g7.symm))) nin0)).ext E13).keep K14 nin0).keep K16 (ninS (Nat.ne_of_lt (Nat.lt_of_lt_of_le ((((G6_3.ext E7).keep K8 nin0).keep K10 nin0).keep K12 (ninS (Nat.ne_of_lt (Nat.lt_of_lt_of_le G6_3.lt (Nat.le_of_eq g7.symm))) nin0)).lt (Nat.le_of_eq g13.symm))) nin0)).same W19
  have N19 := Fr.snoc X19 N17 g_b1
  show Go p.tables e below T19 (mkF m 64 #[.val (.int p1), .val (.int p2), .val (.int (p1 &&& (3 : Int32))), .val (.ref b1), .val (.ref b7), .val (.ref b13), .unset, .unset, .unset, .unset, .unset] []) _
  refine go1 (fun _ => XS.aload X19.here hx rfl (hb hby at_64) rfl rfl) ?_
  show Go p.tables e below T19 (mkF m 66 #[.val (.int p1), .val (.int p2), .val (.int (p1 &&& (3 : Int32))), .val (.ref b1), .val (.ref b7), .val (.ref b13), .unset, .unset, .unset, .unset, .unset] [(.ref b7)]) _
  refine go1 (fun _ => XS.iloadN X19.here hx rfl (hb hby at_66) rfl) ?_
  show Go p.tables e below T19 (mkF m 67 #[.val (.int p1), .val (.int p2), .val (.int (p1 &&& (3 : Int32))), .val (.ref b1), .val (.ref b7), .val (.ref b13), .unset, .unset, .unset, .unset, .unset] [(.int p2), (.ref b7)]) _
  refine go1 (fun _ => XS.iconst X19.here hx rfl (hb hby at_67)) ?_
  show Go p.tables e below T19 (mkF m 68 #[.val (.int p1), .val (.int p2), .val (.int (p1 &&& (3 : Int32))), .val (.ref b1), .val (.ref b7), .val (.ref b13), .unset, .unset, .unset, .unset, .unset] [(.int (2 : Int32)), (.int p2), (.ref b7)]) _
  refine go1 (fun _ => XS.iushr X19.here hx rfl (hb hby at_68) rfl) ?_
  show Go p.tables e below T19 (mkF m 69 #[.val (.int p1), .val (.int p2), .val (.int (p1 &&& (3 : Int32))), .val (.ref b1), .val (.ref b7), .val (.ref b13), .unset, .unset, .unset, .unset, .unset] [(.int ((p2.toUInt32 >>> ((2 : Int32) &&& 31).toUInt32).toInt32)), (.ref b7)]) _
  refine go1 (fun _ => XS.aloadN X19.here hx rfl (hb hby at_69) rfl rfl) ?_
  show Go p.tables e below T19 (mkF m 70 #[.val (.int p1), .val (.int p2), .val (.int (p1 &&& (3 : Int32))), .val (.ref b1), .val (.ref b7), .val (.ref b13), .unset, .unset, .unset, .unset, .unset] [(.ref b1), (.int ((p2.toUInt32 >>> ((2 : Int32) &&& 31).toUInt32).toInt32)), (.ref b7)]) _
  refine go1 (fun _ => XS.aload X19.here hx rfl (hb hby at_70) rfl rfl) ?_
  show Go p.tables e below T19 (mkF m 72 #[.val (.int p1), .val (.int p2), .val (.int (p1 &&& (3 : Int32))), .val (.ref b1), .val (.ref b7), .val (.ref b13), .unset, .unset, .unset, .unset, .unset] [(.ref b7), (.ref b1), (.int ((p2.toUInt32 >>> ((2 : Int32) &&& 31).toUInt32).toInt32)), (.ref b7)]) _
  refine go1 (fun _ => XS.aload X19.here hx rfl (hb hby at_72) rfl rfl) ?_
  show Go p.tables e below T19 (mkF m 74 #[.val (.int p1), .val (.int p2), .val (.int (p1 &&& (3 : Int32))), .val (.ref b1), .val (.ref b7), .val (.ref b13), .unset, .unset, .unset, .unset, .unset] [(.ref b13), (.ref b7), (.ref b1), (.int ((p2.toUInt32 >>> ((2 : Int32) &&& 31).toUInt32).toInt32)), (.ref b7)]) _
  obtain ⟨_, _, ⟨T20, L20, k20, n20⟩, -, X20, ⟨Lc20, hQ20, l20, y20, z20⟩, st20⟩ := Jvm.LawKit.callS X19 hx (y := (⟨"com/example/carmine/carmine/LinksAddPinLaw", "pick", "(ILcom/example/carmine/carmine/Node;Lcom/example/carmine/carmine/Node;Lcom/example/carmine/carmine/Node;)Lcom/example/carmine/carmine/Node;"⟩ : MethodName)) hown (mvT hZ (hw _ (List.mem_of_getElem? (i := 22) rfl))) (mvT hZ (hw _ (List.mem_of_getElem? (i := 23) rfl))) (mvT hZ (hw _ (List.mem_of_getElem? (i := 24) rfl))) (mvT hZ (hw _ (List.mem_of_getElem? (i := 25) rfl))) (by decide) (backOf (W := 1) (rm4 l Z a0 hw [] ((p2.toUInt32 >>> ((2 : Int32) &&& 31).toUInt32).toInt32) b1 b7 b13 h19 n0 (Nat.le_trans (Nat.le_trans (Nat.le_trans (Nat.le_trans (Nat.le_trans (Nat.le_trans (Nat.le_trans (Nat.le_trans (Nat.le_trans (Nat.le_trans (Nat.le_trans (Nat.le_trans Z0 E1.1) K2.1) K4.1) K6.1) E7.1) K8.1) K10.1) K12.1) E13.1) K14.1) K16.1) (Keep.of_wr W19).1) ) hZ (hw _ (List.mem_of_getElem? (i := 25) rfl)) (hw _ (List.mem_of_getElem? (i := 24) rfl)) (by decide) (by decide)) (g := (mkF m 74 #[.val (.int p1), .val (.int p2), .val (.int (p1 &&& (3 : Int32))), .val (.ref b1), .val (.ref b7), .val (.ref b13), .unset, .unset, .unset, .unset, .unset] [(.ref b13), (.ref b7), (.ref b1), (.int ((p2.toUInt32 >>> ((2 : Int32) &&& 31).toUInt32).toInt32)), (.ref b7)])) rfl (by rw [hml]; rfl) (argsL := [(.int ((p2.toUInt32 >>> ((2 : Int32) &&& 31).toUInt32).toInt32)), (.ref b1), (.ref b7), (.ref b13)]) (rest := [(.ref b7)]) (lenOf pd0_2 rfl) rfl (by show 2 * 0 + _ ≤ _; exact Nat.le_of_eq rfl) (hb hby at_74) (fun _ _ => ⟨rfl, e19, (by decide : 8 + 0 ≤ _), (by decide : 20 + 0 ≤ _)⟩)
  dsimp only [Pt.U, Pt.locs, Pt.cells, Pt.slots] at X20 l20 y20 z20 st20 hQ20
  subst l20 y20 z20
  obtain ⟨u21, rfl, N20q, e20, G20_0⟩ := hQ20
  have N20 := Fr.app N19 N20q
  refine go1 st20 ?_
  show Go p.tables e below T20 (mkF m 77 #[.val (.int p1), .val (.int p2), .val (.int (p1 &&& (3 : Int32))), .val (.ref b1), .val (.ref b7), .val (.ref b13), .unset, .unset, .unset, .unset, .unset] [u21, (.ref b7)]) _
  obtain ⟨T22, h22, X22, e22, W22, st22⟩ := putF X20 hx hZ hown (host := "") (Or.inl (hw _ (List.mem_of_getElem? (i := 26) rfl))) Via.refl e20 ((((G12_2.ext E13).keep K14 nin0).keep K16 (ninS (Nat.ne_of_lt (Nat.lt_of_lt_of_le G12_3.lt (Nat.le_of_eq g13.symm))) nin0)).other W19 (Or.inl (Ne.symm (Nat.ne_of_lt (Nat.lt_of_lt_of_le G6_3.lt (Nat.le_of_eq g7.symm)))))) ((((G12_0.ext E13).keep K14).keep K16).wr W19) (Or.inl (hw _ (List.mem_of_getElem? (i := 27) rfl))) (hw _ (List.mem_of_getElem? (i := 1) rfl)) (ty := (.object "com/example/carmine/carmine/Node")) (by decide) rfl (fitsG G20_0) (g := (mkF m 77 #[.val (.int p1), .val (.int p2), .val (.int (p1 &&& (3 : Int32))), .val (.ref b1), .val (.ref b7), .val (.ref b13), .unset, .unset, .unset, .unset, .unset] [u21, (.ref b7)])) rfl rfl (hb hby at_77)
  refine go1 st22 ?_
  have Fw22 := ((((G12_2.ext E13).keep K14 nin0).keep K16 (ninS (Nat.ne_of_lt (Nat.lt_of_lt_of_le G12_3.lt (Nat.le_of_eq g13.symm))) nin0)).other W19 (Or.inl (Ne.symm (Nat.ne_of_lt (Nat.lt_of_lt_of_le G6_3.lt (Nat.le_of_eq g7.symm)))))).same W22
  have N22 := Fr.snoc X22 N20 g_b7
  show Go p.tables e below T22 (mkF m 80 #[.val (.int p1), .val (.int p2), .val (.int (p1 &&& (3 : Int32))), .val (.ref b1), .val (.ref b7), .val (.ref b13), .unset, .unset, .unset, .unset, .unset] []) _
  refine go1 (fun _ => XS.aload X22.here hx rfl (hb hby at_80) rfl rfl) ?_
  show Go p.tables e below T22 (mkF m 82 #[.val (.int p1), .val (.int p2), .val (.int (p1 &&& (3 : Int32))), .val (.ref b1), .val (.ref b7), .val (.ref b13), .unset, .unset, .unset, .unset, .unset] [(.ref b13)]) _
  refine go1 (fun _ => XS.iloadN X22.here hx rfl (hb hby at_82) rfl) ?_
  show Go p.tables e below T22 (mkF m 83 #[.val (.int p1), .val (.int p2), .val (.int (p1 &&& (3 : Int32))), .val (.ref b1), .val (.ref b7), .val (.ref b13), .unset, .unset, .unset, .unset, .unset] [(.int p2), (.ref b13)]) _
  refine go1 (fun _ => XS.iconst X22.here hx rfl (hb hby at_83)) ?_
  show Go p.tables e below T22 (mkF m 84 #[.val (.int p1), .val (.int p2), .val (.int (p1 &&& (3 : Int32))), .val (.ref b1), .val (.ref b7), .val (.ref b13), .unset, .unset, .unset, .unset, .unset] [(.int (4 : Int32)), (.int p2), (.ref b13)]) _
  refine go1 (fun _ => XS.iushr X22.here hx rfl (hb hby at_84) rfl) ?_
  show Go p.tables e below T22 (mkF m 85 #[.val (.int p1), .val (.int p2), .val (.int (p1 &&& (3 : Int32))), .val (.ref b1), .val (.ref b7), .val (.ref b13), .unset, .unset, .unset, .unset, .unset] [(.int ((p2.toUInt32 >>> ((4 : Int32) &&& 31).toUInt32).toInt32)), (.ref b13)]) _
  refine go1 (fun _ => XS.aloadN X22.here hx rfl (hb hby at_85) rfl rfl) ?_
  show Go p.tables e below T22 (mkF m 86 #[.val (.int p1), .val (.int p2), .val (.int (p1 &&& (3 : Int32))), .val (.ref b1), .val (.ref b7), .val (.ref b13), .unset, .unset, .unset, .unset, .unset] [(.ref b1), (.int ((p2.toUInt32 >>> ((4 : Int32) &&& 31).toUInt32).toInt32)), (.ref b13)]) _
  refine go1 (fun _ => XS.aload X22.here hx rfl (hb hby at_86) rfl rfl) ?_
  show Go p.tables e below T22 (mkF m 88 #[.val (.int p1), .val (.int p2), .val (.int (p1 &&& (3 : Int32))), .val (.ref b1), .val (.ref b7), .val (.ref b13), .unset, .unset, .unset, .unset, .unset] [(.ref b7), (.ref b1), (.int ((p2.toUInt32 >>> ((4 : Int32) &&& 31).toUInt32).toInt32)), (.ref b13)]) _
  refine go1 (fun _ => XS.aload X22.here hx rfl (hb hby at_88) rfl rfl) ?_
  show Go p.tables e below T22 (mkF m 90 #[.val (.int p1), .val (.int p2), .val (.int (p1 &&& (3 : Int32))), .val (.ref b1), .val (.ref b7), .val (.ref b13), .unset, .unset, .unset, .unset, .unset] [(.ref b13), (.ref b7), (.ref b1), (.int ((p2.toUInt32 >>> ((4 : Int32) &&& 31).toUInt32).toInt32)), (.ref b13)]) _
  obtain ⟨_, _, ⟨T23, L23, k23, n23⟩, -, X23, ⟨Lc23, hQ23, l23, y23, z23⟩, st23⟩ := Jvm.LawKit.callS X22 hx (y := (⟨"com/example/carmine/carmine/LinksAddPinLaw", "pick", "(ILcom/example/carmine/carmine/Node;Lcom/example/carmine/carmine/Node;Lcom/example/carmine/carmine/Node;)Lcom/example/carmine/carmine/Node;"⟩ : MethodName)) hown (mvT hZ (hw _ (List.mem_of_getElem? (i := 22) rfl))) (mvT hZ (hw _ (List.mem_of_getElem? (i := 23) rfl))) (mvT hZ (hw _ (List.mem_of_getElem? (i := 24) rfl))) (mvT hZ (hw _ (List.mem_of_getElem? (i := 25) rfl))) (by decide) (backOf (W := 1) (rm4 l Z a0 hw [] ((p2.toUInt32 >>> ((4 : Int32) &&& 31).toUInt32).toInt32) b1 b7 b13 h22 n0 (Nat.le_trans (Nat.le_trans (Nat.le_trans (Nat.le_trans (Nat.le_trans (Nat.le_trans (Nat.le_trans (Nat.le_trans (Nat.le_trans (Nat.le_trans (Nat.le_trans (Nat.le_trans (Nat.le_trans Z0 E1.1) K2.1) K4.1) K6.1) E7.1) K8.1) K10.1) K12.1) E13.1) K14.1) K16.1) (Keep.of_wr W19).1) (Keep.of_wr W22).1) ) hZ (hw _ (List.mem_of_getElem? (i := 25) rfl)) (hw _ (List.mem_of_getElem? (i := 24) rfl)) (by decide) (by decide)) (g := (mkF m 90 #[.val (.int p1), .val (.int p2), .val (.int (p1 &&& (3 : Int32))), .val (.ref b1), .val (.ref b7), .val (.ref b13), .unset, .unset, .unset, .unset, .unset] [(.ref b13), (.ref b7), (.ref b1), (.int ((p2.toUInt32 >>> ((4 : Int32) &&& 31).toUInt32).toInt32)), (.ref b13)])) rfl (by rw [hml]; rfl) (argsL := [(.int ((p2.toUInt32 >>> ((4 : Int32) &&& 31).toUInt32).toInt32)), (.ref b1), (.ref b7), (.ref b13)]) (rest := [(.ref b13)]) (lenOf pd0_2 rfl) rfl (by show 2 * 0 + _ ≤ _; exact Nat.le_of_eq rfl) (hb hby at_90) (fun _ _ => ⟨rfl, e22, (by decide : 8 + 0 ≤ _), (by decide : 20 + 0 ≤ _)⟩)
  dsimp only [Pt.U, Pt.locs, Pt.cells, Pt.slots] at X23 l23 y23 z23 st23 hQ23
  subst l23 y23 z23
  obtain ⟨u24, rfl, N23q, e23, G23_0⟩ := hQ23
  have N23 := Fr.app N22 N23q
  refine go1 st23 ?_
  show Go p.tables e below T23 (mkF m 93 #[.val (.int p1), .val (.int p2), .val (.int (p1 &&& (3 : Int32))), .val (.ref b1), .val (.ref b7), .val (.ref b13), .unset, .unset, .unset, .unset, .unset] [u24, (.ref b13)]) _
  obtain ⟨T25, h25, X25, e25, W25, st25⟩ := putF X23 hx hZ hown (host := "") (Or.inl (hw _ (List.mem_of_getElem? (i := 26) rfl))) Via.refl e23 ((G16_2.other W19 (Or.inl (Ne.symm (Nat.ne_of_lt (Nat.lt_of_lt_of_le ((((G6_3.ext E7).keep K8 nin0).keep K10 nin0).keep K12 (ninS (Nat.ne_of_lt (Nat.lt_of_lt_of_le G6_3.lt (Nat.le_of_eq g7.symm))) nin0)).lt (Nat.le_of_eq g13.symm)))))).other W22 (Or.inl (Ne.symm (Nat.ne_of_lt (Nat.lt_of_lt_of_le G12_3.lt (Nat.le_of_eq g13.symm)))))) ((G16_0.wr W19).wr W22) (Or.inl (hw _ (List.mem_of_getElem? (i := 27) rfl))) (hw _ (List.mem_of_getElem? (i := 1) rfl)) (ty := (.object "com/example/carmine/carmine/Node")) (by decide) rfl (fitsG G23_0) (g := (mkF m 93 #[.val (.int p1), .val (.int p2), .val (.int (p1 &&& (3 : Int32))), .val (.ref b1), .val (.ref b7), .val (.ref b13), .unset, .unset, .unset, .unset, .unset] [u24, (.ref b13)])) rfl rfl (hb hby at_93)
  refine go1 st25 ?_
  have Fw25 := ((G16_2.other W19 (Or.inl (Ne.symm (Nat.ne_of_lt (Nat.lt_of_lt_of_le ((((G6_3.ext E7).keep K8 nin0).keep K10 nin0).keep K12 (ninS (Nat.ne_of_lt (Nat.lt_of_lt_of_le G6_3.lt (Nat.le_of_eq g7.symm))) nin0)).lt (Nat.le_of_eq g13.symm)))))).other W22 (Or.inl (Ne.symm (Nat.ne_of_lt (Nat.lt_of_lt_of_le G12_3.lt (Nat.le_of_eq g13.symm)))))).same W25
  have N25 := Fr.snoc X25 N23 g_b13
  show Go p.tables e below T25 (mkF m 96 #[.val (.int p1), .val (.int p2), .val (.int (p1 &&& (3 : Int32))), .val (.ref b1), .val (.ref b7), .val (.ref b13), .unset, .unset, .unset, .unset, .unset] []) _
  obtain ⟨T26, h26, X26, e26, E26, A26, D26, -, st26⟩ := newO X25 hx hZ hown (hw _ (List.mem_of_getElem? (i := 28) rfl)) (hw _ (List.mem_of_getElem? (i := 29) rfl)) (hw _ (List.mem_of_getElem? (i := 30) rfl)) e25 (g := (mkF m 96 #[.val (.int p1), .val (.int p2), .val (.int (p1 &&& (3 : Int32))), .val (.ref b1), .val (.ref b7), .val (.ref b13), .unset, .unset, .unset, .unset, .unset] [])) rfl (hb hby at_96) (by decide) (by decide)
  obtain ⟨b26, g26⟩ : ∃ z, z = h25.size := ⟨_, rfl⟩
  rw [← g26] at A26 D26 st26
  have g_b26 : n0 ≤ b26 := Nat.le_trans (Nat.le_trans (Nat.le_trans (Nat.le_trans (Nat.le_trans (Nat.le_trans (Nat.le_trans (Nat.le_trans (Nat.le_trans (Nat.le_trans (Nat.le_trans (Nat.le_trans (Nat.le_trans (Nat.le_trans (Nat.le_trans Z0 E1.1) K2.1) K4.1) K6.1) E7.1) K8.1) K10.1) K12.1) E13.1) K14.1) K16.1) (Keep.of_wr W19).1) (Keep.of_wr W22).1) (Keep.of_wr W25).1) (Nat.le_of_eq g26.symm)
  have F_last_b26 : Fld Z h26 b26 "com/example/carmine/carmine/RedBlack$Links" "last" "Lcom/example/carmine/carmine/Node;" .null := D26 (Or.inl (hw _ (List.mem_of_getElem? (i := 41) rfl))) (ty := (.object "com/example/carmine/carmine/Node")) (by decide)
  have F_size_b26 : Fld Z h26 b26 "com/example/carmine/carmine/RedBlack$Links" "size" "I" (.int (0 : Int32)) := D26 (Or.inl (hw _ (List.mem_of_getElem? (i := 48) rfl))) (ty := .int) (by decide)
  have F_first_b26 : Fld Z h26 b26 "com/example/carmine/carmine/RedBlack$Links" "first" "Lcom/example/carmine/carmine/Node;" .null := D26 (Or.inl (hw _ (List.mem_of_getElem? (i := 57) rfl))) (ty := (.object "com/example/carmine/carmine/Node")) (by decide)
  refine go1 st26 ?_
  show Go p.tables e below T26 (mkF m 99 #[.val (.int p1), .val (.int p2), .val (.int (p1 &&& (3 : Int32))), .val (.ref b1), .val (.ref b7), .val (.ref b13), .unset, .unset, .unset, .unset, .unset] [(.ref b26)]) _
  refine go1 (fun _ => XS.dup X26.here hx rfl (hb hby at_99) rfl rfl) ?_
  show Go p.tables e below T26 (mkF m 100 #[.val (.int p1), .val (.int p2), .val (.int (p1 &&& (3 : Int32))), .val (.ref b1), .val (.ref b7), .val (.ref b13), .unset, .unset, .unset, .unset, .unset] [(.ref b26), (.ref b26)]) _
  obtain ⟨_, _, ⟨T27, L27, k27, n27⟩, -, X27, ⟨Lc27, hQ27, l27, y27, z27⟩, st27⟩ := X26.specialBack hx (y := (⟨"com/example/carmine/carmine/RedBlack$Links", "<init>", "()V"⟩ : MethodName)) rfl hown (mvT hZ (hw _ (List.mem_of_getElem? (i := 31) rfl))) (mvT hZ (hw _ (List.mem_of_getElem? (i := 32) rfl))) (mvT hZ (hw _ (List.mem_of_getElem? (i := 33) rfl))) (by decide) (backOf (W := 1) (rm5 l Z a0 hw [] b26 h26 n0 (Nat.le_trans (Nat.le_trans (Nat.le_trans (Nat.le_trans (Nat.le_trans (Nat.le_trans (Nat.le_trans (Nat.le_trans (Nat.le_trans (Nat.le_trans (Nat.le_trans (Nat.le_trans (Nat.le_trans (Nat.le_trans (Nat.le_trans Z0 E1.1) K2.1) K4.1) K6.1) E7.1) K8.1) K10.1) K12.1) E13.1) K14.1) K16.1) (Keep.of_wr W19).1) (Keep.of_wr W22).1) (Keep.of_wr W25).1) E26.1) ) hZ (hw _ (List.mem_of_getElem? (i := 33) rfl)) (hw _ (List.mem_of_getElem? (i := 30) rfl)) (by decide) (by decide)) (g := (mkF m 100 #[.val (.int p1), .val (.int p2), .val (.int (p1 &&& (3 : Int32))), .val (.ref b1), .val (.ref b7), .val (.ref b13), .unset, .unset, .unset, .unset, .unset] [(.ref b26), (.ref b26)])) rfl (by rw [hml]; rfl) (Steps.refl _) (a := b26) (argsL := []) (rest := [(.ref b26)]) (lenOf pd0_3 rfl) rfl (by show 2 * 0 + _ ≤ _; exact Nat.le_of_eq rfl) (hb hby at_100) (fun _ _ => ⟨rfl, e26, (by decide : 9 + 0 ≤ _), (by decide : 23 + 0 ≤ _)⟩)
  dsimp only [Pt.U, Pt.locs, Pt.cells, Pt.slots] at X27 l27 y27 z27 st27 hQ27
  subst l27 y27 z27
  obtain ⟨rfl, N27q, e27⟩ := hQ27
  have N27 := Fr.app N25 N27q
  refine goT st27 ?_
  show Go p.tables e below T27 (mkF m 103 #[.val (.int p1), .val (.int p2), .val (.int (p1 &&& (3 : Int32))), .val (.ref b1), .val (.ref b7), .val (.ref b13), .unset, .unset, .unset, .unset, .unset] [(.ref b26)]) _
  refine go1 (fun _ => XS.astore X27.here hx rfl (hb hby at_103) rfl rfl (l' := #[.val (.int p1), .val (.int p2), .val (.int (p1 &&& (3 : Int32))), .val (.ref b1), .val (.ref b7), .val (.ref b13), .val (.ref b26), .unset, .unset, .unset, .unset]) rfl) ?_
  show Go p.tables e below T27 (mkF m 105 #[.val (.int p1), .val (.int p2), .val (.int (p1 &&& (3 : Int32))), .val (.ref b1), .val (.ref b7), .val (.ref b13), .val (.ref b26), .unset, .unset, .unset, .unset] []) _
  rcases own_and3 p1 with hn | hn | hn | hn
  · skip
    rw [hn]
    show Go p.tables e below T27 (mkF m 105 #[.val (.int p1), .val (.int p2), .val (.int (0 : Int32)), .val (.ref b1), .val (.ref b7), .val (.ref b13), .val (.ref b26), .unset, .unset, .unset, .unset] []) _
    refine go1 (fun _ => XS.iloadN X27.here hx rfl (hb hby at_105) rfl) ?_
    show Go p.tables e below T27 (mkF m 106 #[.val (.int p1), .val (.int p2), .val (.int (0 : Int32)), .val (.ref b1), .val (.ref b7), .val (.ref b13), .val (.ref b26), .unset, .unset, .unset, .unset] [(.int (0 : Int32))]) _
    refine go1 (fun _ => XS.iconst X27.here hx rfl (hb hby at_106)) ?_
    show Go p.tables e below T27 (mkF m 107 #[.val (.int p1), .val (.int p2), .val (.int (0 : Int32)), .val (.ref b1), .val (.ref b7), .val (.ref b13), .val (.ref b26), .unset, .unset, .unset, .unset] [(.int (1 : Int32)), (.int (0 : Int32))]) _
    refine go1 (fun _ => XS.icmpYes X27.here hx rfl (pc0 := 107) (pc' := 116) rfl (hb hby at_107) rfl (tlt (by decide : (0 : Int32) < (1 : Int32))).1 (by decide) (by decide)) ?_
    show Go p.tables e below T27 (mkF m 116 #[.val (.int p1), .val (.int p2), .val (.int (0 : Int32)), .val (.ref b1), .val (.ref b7), .val (.ref b13), .val (.ref b26), .unset, .unset, .unset, .unset] []) _
    refine go1 (fun _ => XS.iloadN X27.here hx rfl (hb hby at_116) rfl) ?_
    show Go p.tables e below T27 (mkF m 117 #[.val (.int p1), .val (.int p2), .val (.int (0 : Int32)), .val (.ref b1), .val (.ref b7), .val (.ref b13), .val (.ref b26), .unset, .unset, .unset, .unset] [(.int (0 : Int32))]) _
    refine go1 (fun _ => XS.iconst X27.here hx rfl (hb hby at_117)) ?_
    show Go p.tables e below T27 (mkF m 118 #[.val (.int p1), .val (.int p2), .val (.int (0 : Int32)), .val (.ref b1), .val (.ref b7), .val (.ref b13), .val (.ref b26), .unset, .unset, .unset, .unset] [(.int (2 : Int32)), (.int (0 : Int32))]) _
    refine go1 (fun _ => XS.icmpYes X27.here hx rfl (pc0 := 118) (pc' := 128) rfl (hb hby at_118) rfl (tlt (by decide : (0 : Int32) < (2 : Int32))).1 (by decide) (by decide)) ?_
    show Go p.tables e below T27 (mkF m 128 #[.val (.int p1), .val (.int p2), .val (.int (0 : Int32)), .val (.ref b1), .val (.ref b7), .val (.ref b13), .val (.ref b26), .unset, .unset, .unset, .unset] []) _
    refine go1 (fun _ => XS.iloadN X27.here hx rfl (hb hby at_128) rfl) ?_
    show Go p.tables e below T27 (mkF m 129 #[.val (.int p1), .val (.int p2), .val (.int (0 : Int32)), .val (.ref b1), .val (.ref b7), .val (.ref b13), .val (.ref b26), .unset, .unset, .unset, .unset] [(.int (0 : Int32))]) _
    refine go1 (fun _ => XS.iconst X27.here hx rfl (hb hby at_129)) ?_
    show Go p.tables e below T27 (mkF m 130 #[.val (.int p1), .val (.int p2), .val (.int (0 : Int32)), .val (.ref b1), .val (.ref b7), .val (.ref b13), .val (.ref b26), .unset, .unset, .unset, .unset] [(.int (3 : Int32)), (.int (0 : Int32))]) _
    refine go1 (fun _ => XS.icmpYes X27.here hx rfl (pc0 := 130) (pc' := 140) rfl (hb hby at_130) rfl (tlt (by decide : (0 : Int32) < (3 : Int32))).1 (by decide) (by decide)) ?_
    show Go p.tables e below T27 (mkF m 140 #[.val (.int p1), .val (.int p2), .val (.int (0 : Int32)), .val (.ref b1), .val (.ref b7), .val (.ref b13), .val (.ref b26), .unset, .unset, .unset, .unset] []) _
    refine go1 (fun _ => XS.iloadN X27.here hx rfl (hb hby at_140) rfl) ?_
    show Go p.tables e below T27 (mkF m 141 #[.val (.int p1), .val (.int p2), .val (.int (0 : Int32)), .val (.ref b1), .val (.ref b7), .val (.ref b13), .val (.ref b26), .unset, .unset, .unset, .unset] [(.int (0 : Int32))]) _
    refine go1 (fun _ => XS.ifNo X27.here hx rfl (hb hby at_141) rfl ((if0 _ _).trans (teq (by decide : (0 : Int32) = (0 : Int32))).2)) ?_
    show Go p.tables e below T27 (mkF m 144 #[.val (.int p1), .val (.int p2), .val (.int (0 : Int32)), .val (.ref b1), .val (.ref b7), .val (.ref b13), .val (.ref b26), .unset, .unset, .unset, .unset] []) _
    refine go1 (fun _ => XS.aconstNull X27.here hx rfl (hb hby at_144)) ?_
    show Go p.tables e below T27 (mkF m 145 #[.val (.int p1), .val (.int p2), .val (.int (0 : Int32)), .val (.ref b1), .val (.ref b7), .val (.ref b13), .val (.ref b26), .unset, .unset, .unset, .unset] [.null]) _
    refine go1 (fun _ => XS.goto X27.here hx rfl (pc0 := 145) (pc' := 169) rfl (hb hby at_145) (by decide) (by decide)) ?_
    show Go p.tables e below T27 (mkF m 169 #[.val (.int p1), .val (.int p2), .val (.int (0 : Int32)), .val (.ref b1), .val (.ref b7), .val (.ref b13), .val (.ref b26), .unset, .unset, .unset, .unset] [.null]) _
    refine go1 (fun _ => XS.astore X27.here hx rfl (hb hby at_169) rfl rfl (l' := #[.val (.int p1), .val (.int p2), .val (.int (0 : Int32)), .val (.ref b1), .val (.ref b7), .val (.ref b13), .val (.ref b26), .val .null, .unset, .unset, .unset]) rfl) ?_
    show Go p.tables e below T27 (mkF m 171 #[.val (.int p1), .val (.int p2), .val (.int (0 : Int32)), .val (.ref b1), .val (.ref b7), .val (.ref b13), .val (.ref b26), .val .null, .unset, .unset, .unset] []) _
    refine go1 (fun _ => XS.aload X27.here hx rfl (hb hby at_171) rfl rfl) ?_
    show Go p.tables e below T27 (mkF m 173 #[.val (.int p1), .val (.int p2), .val (.int (0 : Int32)), .val (.ref b1), .val (.ref b7), .val (.ref b13), .val (.ref b26), .val .null, .unset, .unset, .unset] [(.ref b26)]) _
    obtain ⟨cq28, kq28, q28a, q28b, q28c⟩ := isOf hZ e27 A26
    obtain ⟨_, _, ⟨T28, L28, k28, n28⟩, -, X28, ⟨Lc28, hQ28, l28, y28, z28⟩, st28⟩ := X27.virtualBack hx (y := (⟨"com/example/carmine/carmine/RedBlack$Links", "last", "()Lcom/example/carmine/carmine/Node;"⟩ : MethodName)) (z := (⟨"com/example/carmine/carmine/RedBlack$Links", "last", "()Lcom/example/carmine/carmine/Node;"⟩ : MethodName)) hown (mvT hZ (hw _ (List.mem_of_getElem? (i := 35) rfl))) (mvT hZ (hw _ (List.mem_of_getElem? (i := 36) rfl))) (notFace_of_selects (args := #[]) (mvT hZ (hw _ (List.mem_of_getElem? (i := 38) rfl)))) (mvT hZ (hw _ (List.mem_of_getElem? (i := 38) rfl))) (mvT hZ (hw _ (List.mem_of_getElem? (i := 37) rfl))) (by decide) (backOf (W := 0) (rm6 l Z a0 hw [] b26 .null h26 n0 (Nat.le_trans (Nat.le_trans (Nat.le_trans (Nat.le_trans (Nat.le_trans (Nat.le_trans (Nat.le_trans (Nat.le_trans (Nat.le_trans (Nat.le_trans (Nat.le_trans (Nat.le_trans (Nat.le_trans (Nat.le_trans (Nat.le_trans Z0 E1.1) K2.1) K4.1) K6.1) E7.1) K8.1) K10.1) K12.1) E13.1) K14.1) K16.1) (Keep.of_wr W19).1) (Keep.of_wr W22).1) (Keep.of_wr W25).1) E26.1) F_last_b26 (by first | assumption | decide | rfl)) hZ (hw _ (List.mem_of_getElem? (i := 39) rfl)) (hw _ (List.mem_of_getElem? (i := 30) rfl)) (by decide) (by decide)) q28a q28c (g := (mkF m 173 #[.val (.int p1), .val (.int p2), .val (.int (0 : Int32)), .val (.ref b1), .val (.ref b7), .val (.ref b13), .val (.ref b26), .val .null, .unset, .unset, .unset] [(.ref b26)])) rfl (by rw [hml]; rfl) (Steps.refl _) (argsL := []) (rest := []) (lenOf pd0_4 rfl) rfl (by show 2 * 0 + _ ≤ _; exact Nat.le_of_eq rfl) (hb hby at_173) (fun _ _ => ⟨rfl, e27, (by decide : 9 + 0 ≤ _), (by decide : 23 + 0 ≤ _)⟩)
    dsimp only [Pt.U, Pt.locs, Pt.cells, Pt.slots] at X28 l28 y28 z28 st28 hQ28
    subst l28 y28 z28
    obtain ⟨rfl, N28q, e28⟩ := hQ28
    have N28 := Fr.app N27 N28q
    refine goT st28 ?_
    show Go p.tables e below T28 (mkF m 176 #[.val (.int p1), .val (.int p2), .val (.int (0 : Int32)), .val (.ref b1), .val (.ref b7), .val (.ref b13), .val (.ref b26), .val .null, .unset, .unset, .unset] [.null]) _
    refine go1 (fun _ => XS.aload X28.here hx rfl (hb hby at_176) rfl rfl) ?_
    show Go p.tables e below T28 (mkF m 178 #[.val (.int p1), .val (.int p2), .val (.int (0 : Int32)), .val (.ref b1), .val (.ref b7), .val (.ref b13), .val (.ref b26), .val .null, .unset, .unset, .unset] [.null, .null]) _
    refine go1 (fun _ => Jvm.RoadKit.acmp (g := (mkF m 178 #[.val (.int p1), .val (.int p2), .val (.int (0 : Int32)), .val (.ref b1), .val (.ref b7), .val (.ref b13), .val (.ref b26), .val .null, .unset, .unset, .unset] [.null, .null])) X28 hx rfl rfl rfl (pc0 := 178) (pc' := 181) (same := true) rfl (hb hby at_178) rfl (decide_eq_true rfl) (by decide) (by decide)) ?_
    show Go p.tables e below T28 (mkF m 181 #[.val (.int p1), .val (.int p2), .val (.int (0 : Int32)), .val (.ref b1), .val (.ref b7), .val (.ref b13), .val (.ref b26), .val .null, .unset, .unset, .unset] []) _
    refine go1 (fun _ => XS.aload X28.here hx rfl (hb hby at_181) rfl rfl) ?_
    show Go p.tables e below T28 (mkF m 183 #[.val (.int p1), .val (.int p2), .val (.int (0 : Int32)), .val (.ref b1), .val (.ref b7), .val (.ref b13), .val (.ref b26), .val .null, .unset, .unset, .unset] [(.ref b26)]) _
    obtain ⟨cq29, kq29, q29a, q29b, q29c⟩ := isOf hZ e28 A26
    obtain ⟨_, _, ⟨T29, L29, k29, n29⟩, -, X29, ⟨Lc29, hQ29, l29, y29, z29⟩, st29⟩ := X28.virtualBack hx (y := (⟨"com/example/carmine/carmine/RedBlack$Links", "size", "()I"⟩ : MethodName)) (z := (⟨"com/example/carmine/carmine/RedBlack$Links", "size", "()I"⟩ : MethodName)) hown (mvT hZ (hw _ (List.mem_of_getElem? (i := 42) rfl))) (mvT hZ (hw _ (List.mem_of_getElem? (i := 43) rfl))) (notFace_of_selects (args := #[]) (mvT hZ (hw _ (List.mem_of_getElem? (i := 45) rfl)))) (mvT hZ (hw _ (List.mem_of_getElem? (i := 45) rfl))) (mvT hZ (hw _ (List.mem_of_getElem? (i := 44) rfl))) (by decide) (backOf (W := 0) (rm7 l Z a0 hw [] b26 (0 : Int32) h26 n0 (Nat.le_trans (Nat.le_trans (Nat.le_trans (Nat.le_trans (Nat.le_trans (Nat.le_trans (Nat.le_trans (Nat.le_trans (Nat.le_trans (Nat.le_trans (Nat.le_trans (Nat.le_trans (Nat.le_trans (Nat.le_trans (Nat.le_trans Z0 E1.1) K2.1) K4.1) K6.1) E7.1) K8.1) K10.1) K12.1) E13.1) K14.1) K16.1) (Keep.of_wr W19).1) (Keep.of_wr W22).1) (Keep.of_wr W25).1) E26.1) F_size_b26) hZ (hw _ (List.mem_of_getElem? (i := 46) rfl)) (hw _ (List.mem_of_getElem? (i := 30) rfl)) (by decide) (by decide)) q29a q29c (g := (mkF m 183 #[.val (.int p1), .val (.int p2), .val (.int (0 : Int32)), .val (.ref b1), .val (.ref b7), .val (.ref b13), .val (.ref b26), .val .null, .unset, .unset, .unset] [(.ref b26)])) rfl (by rw [hml]; rfl) (Steps.refl _) (argsL := []) (rest := []) (lenOf pd0_5 rfl) rfl (by show 2 * 0 + _ ≤ _; exact Nat.le_of_eq rfl) (hb hby at_183) (fun _ _ => ⟨rfl, e28, (by decide : 9 + 0 ≤ _), (by decide : 23 + 0 ≤ _)⟩)
    dsimp only [Pt.U, Pt.locs, Pt.cells, Pt.slots] at X29 l29 y29 z29 st29 hQ29
    subst l29 y29 z29
    obtain ⟨rfl, N29q, e29⟩ := hQ29
    have N29 := Fr.app N28 N29q
    refine goT st29 ?_
    show Go p.tables e below T29 (mkF m 186 #[.val (.int p1), .val (.int p2), .val (.int (0 : Int32)), .val (.ref b1), .val (.ref b7), .val (.ref b13), .val (.ref b26), .val .null, .unset, .unset, .unset] [(.int (0 : Int32))]) _
    refine go1 (fun _ => XS.iloadN X29.here hx rfl (hb hby at_186) rfl) ?_
    show Go p.tables e below T29 (mkF m 187 #[.val (.int p1), .val (.int p2), .val (.int (0 : Int32)), .val (.ref b1), .val (.ref b7), .val (.ref b13), .val (.ref b26), .val .null, .unset, .unset, .unset] [(.int (0 : Int32)), (.int (0 : Int32))]) _
    refine go1 (fun _ => XS.icmpNo X29.here hx rfl (hb hby at_187) rfl (teq (by decide : (0 : Int32) = (0 : Int32))).2) ?_
    show Go p.tables e below T29 (mkF m 190 #[.val (.int p1), .val (.int p2), .val (.int (0 : Int32)), .val (.ref b1), .val (.ref b7), .val (.ref b13), .val (.ref b26), .val .null, .unset, .unset, .unset] []) _
    refine go1 (fun _ => XS.iconst X29.here hx rfl (hb hby at_190)) ?_
    show Go p.tables e below T29 (mkF m 191 #[.val (.int p1), .val (.int p2), .val (.int (0 : Int32)), .val (.ref b1), .val (.ref b7), .val (.ref b13), .val (.ref b26), .val .null, .unset, .unset, .unset] [(.int (1 : Int32))]) _
    refine go1 (fun _ => XS.goto X29.here hx rfl (pc0 := 191) (pc' := 195) rfl (hb hby at_191) (by decide) (by decide)) ?_
    show Go p.tables e below T29 (mkF m 195 #[.val (.int p1), .val (.int p2), .val (.int (0 : Int32)), .val (.ref b1), .val (.ref b7), .val (.ref b13), .val (.ref b26), .val .null, .unset, .unset, .unset] [(.int (1 : Int32))]) _
    refine go1 (fun _ => XS.istore X29.here hx rfl (hb hby at_195) rfl (l' := #[.val (.int p1), .val (.int p2), .val (.int (0 : Int32)), .val (.ref b1), .val (.ref b7), .val (.ref b13), .val (.ref b26), .val .null, .val (.int (1 : Int32)), .unset, .unset]) rfl) ?_
    show Go p.tables e below T29 (mkF m 197 #[.val (.int p1), .val (.int p2), .val (.int (0 : Int32)), .val (.ref b1), .val (.ref b7), .val (.ref b13), .val (.ref b26), .val .null, .val (.int (1 : Int32)), .unset, .unset] []) _
    refine go1 (fun _ => XS.iloadN X29.here hx rfl (hb hby at_197) rfl) ?_
    show Go p.tables e below T29 (mkF m 198 #[.val (.int p1), .val (.int p2), .val (.int (0 : Int32)), .val (.ref b1), .val (.ref b7), .val (.ref b13), .val (.ref b26), .val .null, .val (.int (1 : Int32)), .unset, .unset] [(.int (0 : Int32))]) _
    refine go1 (fun _ => XS.iconst X29.here hx rfl (hb hby at_198)) ?_
    show Go p.tables e below T29 (mkF m 199 #[.val (.int p1), .val (.int p2), .val (.int (0 : Int32)), .val (.ref b1), .val (.ref b7), .val (.ref b13), .val (.ref b26), .val .null, .val (.int (1 : Int32)), .unset, .unset] [(.int (2 : Int32)), (.int (0 : Int32))]) _
    refine go1 (fun _ => XS.icmpYes X29.here hx rfl (pc0 := 199) (pc' := 223) rfl (hb hby at_199) rfl (tlt (by decide : (0 : Int32) < (2 : Int32))).1 (by decide) (by decide)) ?_
    show Go p.tables e below T29 (mkF m 223 #[.val (.int p1), .val (.int p2), .val (.int (0 : Int32)), .val (.ref b1), .val (.ref b7), .val (.ref b13), .val (.ref b26), .val .null, .val (.int (1 : Int32)), .unset, .unset] []) _
    refine go1 (fun _ => XS.iloadN X29.here hx rfl (hb hby at_223) rfl) ?_
    show Go p.tables e below T29 (mkF m 224 #[.val (.int p1), .val (.int p2), .val (.int (0 : Int32)), .val (.ref b1), .val (.ref b7), .val (.ref b13), .val (.ref b26), .val .null, .val (.int (1 : Int32)), .unset, .unset] [(.int (0 : Int32))]) _
    refine go1 (fun _ => XS.iconst X29.here hx rfl (hb hby at_224)) ?_
    show Go p.tables e below T29 (mkF m 225 #[.val (.int p1), .val (.int p2), .val (.int (0 : Int32)), .val (.ref b1), .val (.ref b7), .val (.ref b13), .val (.ref b26), .val .null, .val (.int (1 : Int32)), .unset, .unset] [(.int (3 : Int32)), (.int (0 : Int32))]) _
    refine go1 (fun _ => XS.icmpYes X29.here hx rfl (pc0 := 225) (pc' := 250) rfl (hb hby at_225) rfl (tlt (by decide : (0 : Int32) < (3 : Int32))).1 (by decide) (by decide)) ?_
    show Go p.tables e below T29 (mkF m 250 #[.val (.int p1), .val (.int p2), .val (.int (0 : Int32)), .val (.ref b1), .val (.ref b7), .val (.ref b13), .val (.ref b26), .val .null, .val (.int (1 : Int32)), .unset, .unset] []) _
    refine go1 (fun _ => XS.aload X29.here hx rfl (hb hby at_250) rfl rfl) ?_
    show Go p.tables e below T29 (mkF m 252 #[.val (.int p1), .val (.int p2), .val (.int (0 : Int32)), .val (.ref b1), .val (.ref b7), .val (.ref b13), .val (.ref b26), .val .null, .val (.int (1 : Int32)), .unset, .unset] [(.ref b26)]) _
    obtain ⟨_, _, ⟨T30, L30, k30, n30⟩, -, X30, ⟨Lc30, hQ30, l30, y30, z30⟩, st30⟩ := Jvm.LawKit.callS X29 hx (y := (⟨"com/example/carmine/carmine/RedBlack", "build", "(Lcom/example/carmine/carmine/RedBlack$Links;)Lcom/example/carmine/carmine/Node;"⟩ : MethodName)) hown (mvT hZ (hw _ (List.mem_of_getElem? (i := 49) rfl))) (mvT hZ (hw _ (List.mem_of_getElem? (i := 50) rfl))) (mvT hZ (hw _ (List.mem_of_getElem? (i := 51) rfl))) (mvT hZ (hw _ (List.mem_of_getElem? (i := 52) rfl))) (by decide) (backOf (W := 0) (rm8_0 l Z a0 hw [] b26 h26 n0 (Nat.le_trans (Nat.le_trans (Nat.le_trans (Nat.le_trans (Nat.le_trans (Nat.le_trans (Nat.le_trans (Nat.le_trans (Nat.le_trans (Nat.le_trans (Nat.le_trans (Nat.le_trans (Nat.le_trans (Nat.le_trans (Nat.le_trans Z0 E1.1) K2.1) K4.1) K6.1) E7.1) K8.1) K10.1) K12.1) E13.1) K14.1) K16.1) (Keep.of_wr W19).1) (Keep.of_wr W22).1) (Keep.of_wr W25).1) E26.1) F_first_b26 F_size_b26 A26) hZ (hw _ (List.mem_of_getElem? (i := 52) rfl)) (hw _ (List.mem_of_getElem? (i := 51) rfl)) (by decide) (by decide)) (g := (mkF m 252 #[.val (.int p1), .val (.int p2), .val (.int (0 : Int32)), .val (.ref b1), .val (.ref b7), .val (.ref b13), .val (.ref b26), .val .null, .val (.int (1 : Int32)), .unset, .unset] [(.ref b26)])) rfl (by rw [hml]; rfl) (argsL := [(.ref b26)]) (rest := []) (lenOf pd0_6 rfl) rfl (by show 2 * 0 + _ ≤ _; exact Nat.le_of_eq rfl) (hb hby at_252) (fun _ _ => ⟨rfl, e29, (by decide : 9 + 1 ≤ _), (by decide : 23 + 6 ≤ _)⟩)
    dsimp only [Pt.U, Pt.locs, Pt.cells, Pt.slots] at X30 l30 y30 z30 st30 hQ30
    subst l30 y30 z30
    obtain ⟨rfl, N30q, K30⟩ := hQ30
    have N30 := Fr.app N29 N30q
    refine go1 st30 ?_
    show Go p.tables e below T30 (mkF m 255 #[.val (.int p1), .val (.int p2), .val (.int (0 : Int32)), .val (.ref b1), .val (.ref b7), .val (.ref b13), .val (.ref b26), .val .null, .val (.int (1 : Int32)), .unset, .unset] [.null]) _
    refine go1 (fun _ => XS.astore X30.here hx rfl (hb hby at_255) rfl rfl (l' := #[.val (.int p1), .val (.int p2), .val (.int (0 : Int32)), .val (.ref b1), .val (.ref b7), .val (.ref b13), .val (.ref b26), .val .null, .val (.int (1 : Int32)), .val .null, .unset]) rfl) ?_
    show Go p.tables e below T30 (mkF m 257 #[.val (.int p1), .val (.int p2), .val (.int (0 : Int32)), .val (.ref b1), .val (.ref b7), .val (.ref b13), .val (.ref b26), .val .null, .val (.int (1 : Int32)), .val .null, .unset] []) _
    refine go1 (fun _ => XS.iloadN X30.here hx rfl (hb hby at_257) rfl) ?_
    show Go p.tables e below T30 (mkF m 258 #[.val (.int p1), .val (.int p2), .val (.int (0 : Int32)), .val (.ref b1), .val (.ref b7), .val (.ref b13), .val (.ref b26), .val .null, .val (.int (1 : Int32)), .val .null, .unset] [(.int (0 : Int32))]) _
    refine go1 (fun _ => XS.ifNo X30.here hx rfl (hb hby at_258) rfl ((if0 _ _).trans (teq (by decide : (0 : Int32) = (0 : Int32))).2)) ?_
    show Go p.tables e below T30 (mkF m 261 #[.val (.int p1), .val (.int p2), .val (.int (0 : Int32)), .val (.ref b1), .val (.ref b7), .val (.ref b13), .val (.ref b26), .val .null, .val (.int (1 : Int32)), .val .null, .unset] []) _
    refine go1 (fun _ => XS.aload X30.here hx rfl (hb hby at_261) rfl rfl) ?_
    show Go p.tables e below T30 (mkF m 263 #[.val (.int p1), .val (.int p2), .val (.int (0 : Int32)), .val (.ref b1), .val (.ref b7), .val (.ref b13), .val (.ref b26), .val .null, .val (.int (1 : Int32)), .val .null, .unset] [.null]) _
    refine go1 (fun _ => XS.ifnonnullNo X30.here hx rfl (hb hby at_263) rfl) ?_
    show Go p.tables e below T30 (mkF m 266 #[.val (.int p1), .val (.int p2), .val (.int (0 : Int32)), .val (.ref b1), .val (.ref b7), .val (.ref b13), .val (.ref b26), .val .null, .val (.int (1 : Int32)), .val .null, .unset] []) _
    refine go1 (fun _ => XS.iconst X30.here hx rfl (hb hby at_266)) ?_
    show Go p.tables e below T30 (mkF m 267 #[.val (.int p1), .val (.int p2), .val (.int (0 : Int32)), .val (.ref b1), .val (.ref b7), .val (.ref b13), .val (.ref b26), .val .null, .val (.int (1 : Int32)), .val .null, .unset] [(.int (1 : Int32))]) _
    refine go1 (fun _ => XS.goto X30.here hx rfl (pc0 := 267) (pc' := 271) rfl (hb hby at_267) (by decide) (by decide)) ?_
    show Go p.tables e below T30 (mkF m 271 #[.val (.int p1), .val (.int p2), .val (.int (0 : Int32)), .val (.ref b1), .val (.ref b7), .val (.ref b13), .val (.ref b26), .val .null, .val (.int (1 : Int32)), .val .null, .unset] [(.int (1 : Int32))]) _
    refine go1 (fun _ => XS.istore X30.here hx rfl (hb hby at_271) rfl (l' := #[.val (.int p1), .val (.int p2), .val (.int (0 : Int32)), .val (.ref b1), .val (.ref b7), .val (.ref b13), .val (.ref b26), .val .null, .val (.int (1 : Int32)), .val .null, .val (.int (1 : Int32))]) rfl) ?_
    show Go p.tables e below T30 (mkF m 273 #[.val (.int p1), .val (.int p2), .val (.int (0 : Int32)), .val (.ref b1), .val (.ref b7), .val (.ref b13), .val (.ref b26), .val .null, .val (.int (1 : Int32)), .val .null, .val (.int (1 : Int32))] []) _
    refine go1 (fun _ => XS.goto X30.here hx rfl (pc0 := 273) (pc' := 367) rfl (hb hby at_273) (by decide) (by decide)) ?_
    show Go p.tables e below T30 (mkF m 367 #[.val (.int p1), .val (.int p2), .val (.int (0 : Int32)), .val (.ref b1), .val (.ref b7), .val (.ref b13), .val (.ref b26), .val .null, .val (.int (1 : Int32)), .val .null, .val (.int (1 : Int32))] []) _
    refine go1 (fun _ => XS.iload X30.here hx rfl (hb hby at_367) rfl) ?_
    show Go p.tables e below T30 (mkF m 369 #[.val (.int p1), .val (.int p2), .val (.int (0 : Int32)), .val (.ref b1), .val (.ref b7), .val (.ref b13), .val (.ref b26), .val .null, .val (.int (1 : Int32)), .val .null, .val (.int (1 : Int32))] [(.int (1 : Int32))]) _
    refine go1 (fun _ => XS.ifNo X30.here hx rfl (hb hby at_369) rfl ((if0 _ _).trans (feq (by decide : ¬ ((1 : Int32) = (0 : Int32)))).1)) ?_
    show Go p.tables e below T30 (mkF m 372 #[.val (.int p1), .val (.int p2), .val (.int (0 : Int32)), .val (.ref b1), .val (.ref b7), .val (.ref b13), .val (.ref b26), .val .null, .val (.int (1 : Int32)), .val .null, .val (.int (1 : Int32))] []) _
    refine go1 (fun _ => XS.iload X30.here hx rfl (hb hby at_372) rfl) ?_
    show Go p.tables e below T30 (mkF m 374 #[.val (.int p1), .val (.int p2), .val (.int (0 : Int32)), .val (.ref b1), .val (.ref b7), .val (.ref b13), .val (.ref b26), .val .null, .val (.int (1 : Int32)), .val .null, .val (.int (1 : Int32))] [(.int (1 : Int32))]) _
    refine go1 (fun _ => XS.ifNo X30.here hx rfl (hb hby at_374) rfl ((if0 _ _).trans (feq (by decide : ¬ ((1 : Int32) = (0 : Int32)))).1)) ?_
    show Go p.tables e below T30 (mkF m 377 #[.val (.int p1), .val (.int p2), .val (.int (0 : Int32)), .val (.ref b1), .val (.ref b7), .val (.ref b13), .val (.ref b26), .val .null, .val (.int (1 : Int32)), .val .null, .val (.int (1 : Int32))] []) _
    refine go1 (fun _ => XS.iconst X30.here hx rfl (hb hby at_377)) ?_
    show Go p.tables e below T30 (mkF m 378 #[.val (.int p1), .val (.int p2), .val (.int (0 : Int32)), .val (.ref b1), .val (.ref b7), .val (.ref b13), .val (.ref b26), .val .null, .val (.int (1 : Int32)), .val .null, .val (.int (1 : Int32))] [(.int (1 : Int32))]) _
    refine go1 (fun _ => XS.goto X30.here hx rfl (pc0 := 378) (pc' := 382) rfl (hb hby at_378) (by decide) (by decide)) ?_
    show Go p.tables e below T30 (mkF m 382 #[.val (.int p1), .val (.int p2), .val (.int (0 : Int32)), .val (.ref b1), .val (.ref b7), .val (.ref b13), .val (.ref b26), .val .null, .val (.int (1 : Int32)), .val .null, .val (.int (1 : Int32))] [(.int (1 : Int32))]) _
    refine goR X30 (BodyLoose.notSynchronized Bd) (v := (some (.int (1 : Int32)))) (fun h => by rw [Bd.returns] at h; cases h) (Q0 Z p1 p2 a_cache h0 n0) (fun fs hr => retN X30 hx (t := .boolean) Bd.returns (by simp) (hb hby at_382) hr) (by decide) (by decide) ?_
    show Q0 Z p1 p2 a_cache h0 n0 _ T30.heap _
    exact ⟨rfl, N30⟩
  · skip
    rw [hn]
    show Go p.tables e below T27 (mkF m 105 #[.val (.int p1), .val (.int p2), .val (.int (1 : Int32)), .val (.ref b1), .val (.ref b7), .val (.ref b13), .val (.ref b26), .unset, .unset, .unset, .unset] []) _
    refine go1 (fun _ => XS.iloadN X27.here hx rfl (hb hby at_105) rfl) ?_
    show Go p.tables e below T27 (mkF m 106 #[.val (.int p1), .val (.int p2), .val (.int (1 : Int32)), .val (.ref b1), .val (.ref b7), .val (.ref b13), .val (.ref b26), .unset, .unset, .unset, .unset] [(.int (1 : Int32))]) _
    refine go1 (fun _ => XS.iconst X27.here hx rfl (hb hby at_106)) ?_
    show Go p.tables e below T27 (mkF m 107 #[.val (.int p1), .val (.int p2), .val (.int (1 : Int32)), .val (.ref b1), .val (.ref b7), .val (.ref b13), .val (.ref b26), .unset, .unset, .unset, .unset] [(.int (1 : Int32)), (.int (1 : Int32))]) _
    refine go1 (fun _ => XS.icmpNo X27.here hx rfl (hb hby at_107) rfl (flt (by decide : ¬ ((1 : Int32) < (1 : Int32)))).1) ?_
    show Go p.tables e below T27 (mkF m 110 #[.val (.int p1), .val (.int p2), .val (.int (1 : Int32)), .val (.ref b1), .val (.ref b7), .val (.ref b13), .val (.ref b26), .unset, .unset, .unset, .unset] []) _
    refine go1 (fun _ => XS.aload X27.here hx rfl (hb hby at_110) rfl rfl) ?_
    show Go p.tables e below T27 (mkF m 112 #[.val (.int p1), .val (.int p2), .val (.int (1 : Int32)), .val (.ref b1), .val (.ref b7), .val (.ref b13), .val (.ref b26), .unset, .unset, .unset, .unset] [(.ref b26)]) _
    refine go1 (fun _ => XS.aloadN X27.here hx rfl (hb hby at_112) rfl rfl) ?_
    show Go p.tables e below T27 (mkF m 113 #[.val (.int p1), .val (.int p2), .val (.int (1 : Int32)), .val (.ref b1), .val (.ref b7), .val (.ref b13), .val (.ref b26), .unset, .unset, .unset, .unset] [(.ref b1), (.ref b26)]) _
    obtain ⟨cq31, kq31, q31a, q31b, q31c⟩ := isOf hZ e27 A26
    obtain ⟨_, _, ⟨T31, L31, k31, n31⟩, -, X31, ⟨Lc31, hQ31, l31, y31, z31⟩, st31⟩ := X27.virtualBack hx (y := (⟨"com/example/carmine/carmine/RedBlack$Links", "add", "(Lcom/example/carmine/carmine/Node;)V"⟩ : MethodName)) (z := (⟨"com/example/carmine/carmine/RedBlack$Links", "add", "(Lcom/example/carmine/carmine/Node;)V"⟩ : MethodName)) hown (mvT hZ (hw _ (List.mem_of_getElem? (i := 81) rfl))) (mvT hZ (hw _ (List.mem_of_getElem? (i := 82) rfl))) (notFace_of_selects (args := #[]) (mvT hZ (hw _ (List.mem_of_getElem? (i := 84) rfl)))) (mvT hZ (hw _ (List.mem_of_getElem? (i := 84) rfl))) (mvT hZ (hw _ (List.mem_of_getElem? (i := 83) rfl))) (by decide) (backOf (W := 0) (rm14a l Z a0 hw [] b26 b1 (0 : Int32) h26 n0 (Nat.le_trans (Nat.le_trans (Nat.le_trans (Nat.le_trans (Nat.le_trans (Nat.le_trans (Nat.le_trans (Nat.le_trans (Nat.le_trans (Nat.le_trans (Nat.le_trans (Nat.le_trans (Nat.le_trans (Nat.le_trans (Nat.le_trans Z0 E1.1) K2.1) K4.1) K6.1) E7.1) K8.1) K10.1) K12.1) E13.1) K14.1) K16.1) (Keep.of_wr W19).1) (Keep.of_wr W22).1) (Keep.of_wr W25).1) E26.1) F_first_b26 F_last_b26 F_size_b26 A26 g_b26) hZ (hw _ (List.mem_of_getElem? (i := 85) rfl)) (hw _ (List.mem_of_getElem? (i := 30) rfl)) (by decide) (by decide)) q31a q31c (g := (mkF m 113 #[.val (.int p1), .val (.int p2), .val (.int (1 : Int32)), .val (.ref b1), .val (.ref b7), .val (.ref b13), .val (.ref b26), .unset, .unset, .unset, .unset] [(.ref b1), (.ref b26)])) rfl (by rw [hml]; rfl) (Steps.refl _) (argsL := [(.ref b1)]) (rest := []) (lenOf pd0_7 rfl) rfl (by show 2 * 0 + _ ≤ _; exact Nat.le_of_eq rfl) (hb hby at_113) (fun _ _ => ⟨rfl, e27, (by decide : 9 + 0 ≤ _), (by decide : 23 + 0 ≤ _)⟩)
    dsimp only [Pt.U, Pt.locs, Pt.cells, Pt.slots] at X31 l31 y31 z31 st31 hQ31
    subst l31 y31 z31
    obtain ⟨rfl, N31q, K31, G31_0, G31_1, G31_2, G31_3⟩ := hQ31
    have N31 := Fr.app N27 N31q
    refine goT st31 ?_
    show Go p.tables e below T31 (mkF m 116 #[.val (.int p1), .val (.int p2), .val (.int (1 : Int32)), .val (.ref b1), .val (.ref b7), .val (.ref b13), .val (.ref b26), .unset, .unset, .unset, .unset] []) _
    refine go1 (fun _ => XS.iloadN X31.here hx rfl (hb hby at_116) rfl) ?_
    show Go p.tables e below T31 (mkF m 117 #[.val (.int p1), .val (.int p2), .val (.int (1 : Int32)), .val (.ref b1), .val (.ref b7), .val (.ref b13), .val (.ref b26), .unset, .unset, .unset, .unset] [(.int (1 : Int32))]) _
    refine go1 (fun _ => XS.iconst X31.here hx rfl (hb hby at_117)) ?_
    show Go p.tables e below T31 (mkF m 118 #[.val (.int p1), .val (.int p2), .val (.int (1 : Int32)), .val (.ref b1), .val (.ref b7), .val (.ref b13), .val (.ref b26), .unset, .unset, .unset, .unset] [(.int (2 : Int32)), (.int (1 : Int32))]) _
    refine go1 (fun _ => XS.icmpYes X31.here hx rfl (pc0 := 118) (pc' := 128) rfl (hb hby at_118) rfl (tlt (by decide : (1 : Int32) < (2 : Int32))).1 (by decide) (by decide)) ?_
    show Go p.tables e below T31 (mkF m 128 #[.val (.int p1), .val (.int p2), .val (.int (1 : Int32)), .val (.ref b1), .val (.ref b7), .val (.ref b13), .val (.ref b26), .unset, .unset, .unset, .unset] []) _
    refine go1 (fun _ => XS.iloadN X31.here hx rfl (hb hby at_128) rfl) ?_
    show Go p.tables e below T31 (mkF m 129 #[.val (.int p1), .val (.int p2), .val (.int (1 : Int32)), .val (.ref b1), .val (.ref b7), .val (.ref b13), .val (.ref b26), .unset, .unset, .unset, .unset] [(.int (1 : Int32))]) _
    refine go1 (fun _ => XS.iconst X31.here hx rfl (hb hby at_129)) ?_
    show Go p.tables e below T31 (mkF m 130 #[.val (.int p1), .val (.int p2), .val (.int (1 : Int32)), .val (.ref b1), .val (.ref b7), .val (.ref b13), .val (.ref b26), .unset, .unset, .unset, .unset] [(.int (3 : Int32)), (.int (1 : Int32))]) _
    refine go1 (fun _ => XS.icmpYes X31.here hx rfl (pc0 := 130) (pc' := 140) rfl (hb hby at_130) rfl (tlt (by decide : (1 : Int32) < (3 : Int32))).1 (by decide) (by decide)) ?_
    show Go p.tables e below T31 (mkF m 140 #[.val (.int p1), .val (.int p2), .val (.int (1 : Int32)), .val (.ref b1), .val (.ref b7), .val (.ref b13), .val (.ref b26), .unset, .unset, .unset, .unset] []) _
    refine go1 (fun _ => XS.iloadN X31.here hx rfl (hb hby at_140) rfl) ?_
    show Go p.tables e below T31 (mkF m 141 #[.val (.int p1), .val (.int p2), .val (.int (1 : Int32)), .val (.ref b1), .val (.ref b7), .val (.ref b13), .val (.ref b26), .unset, .unset, .unset, .unset] [(.int (1 : Int32))]) _
    refine go1 (fun _ => XS.ifYes X31.here hx rfl (pc0 := 141) (pc' := 148) rfl (hb hby at_141) rfl ((if0 _ _).trans (feq (by decide : ¬ ((1 : Int32) = (0 : Int32)))).2) (by decide) (by decide)) ?_
    show Go p.tables e below T31 (mkF m 148 #[.val (.int p1), .val (.int p2), .val (.int (1 : Int32)), .val (.ref b1), .val (.ref b7), .val (.ref b13), .val (.ref b26), .unset, .unset, .unset, .unset] []) _
    refine go1 (fun _ => XS.iloadN X31.here hx rfl (hb hby at_148) rfl) ?_
    show Go p.tables e below T31 (mkF m 149 #[.val (.int p1), .val (.int p2), .val (.int (1 : Int32)), .val (.ref b1), .val (.ref b7), .val (.ref b13), .val (.ref b26), .unset, .unset, .unset, .unset] [(.int (1 : Int32))]) _
    refine go1 (fun _ => XS.iconst X31.here hx rfl (hb hby at_149)) ?_
    show Go p.tables e below T31 (mkF m 150 #[.val (.int p1), .val (.int p2), .val (.int (1 : Int32)), .val (.ref b1), .val (.ref b7), .val (.ref b13), .val (.ref b26), .unset, .unset, .unset, .unset] [(.int (1 : Int32)), (.int (1 : Int32))]) _
    refine go1 (fun _ => XS.icmpNo X31.here hx rfl (hb hby at_150) rfl (teq (by decide : (1 : Int32) = (1 : Int32))).2) ?_
    show Go p.tables e below T31 (mkF m 153 #[.val (.int p1), .val (.int p2), .val (.int (1 : Int32)), .val (.ref b1), .val (.ref b7), .val (.ref b13), .val (.ref b26), .unset, .unset, .unset, .unset] []) _
    refine go1 (fun _ => XS.aloadN X31.here hx rfl (hb hby at_153) rfl rfl) ?_
    show Go p.tables e below T31 (mkF m 154 #[.val (.int p1), .val (.int p2), .val (.int (1 : Int32)), .val (.ref b1), .val (.ref b7), .val (.ref b13), .val (.ref b26), .unset, .unset, .unset, .unset] [(.ref b1)]) _
    refine go1 (fun _ => XS.goto X31.here hx rfl (pc0 := 154) (pc' := 169) rfl (hb hby at_154) (by decide) (by decide)) ?_
    show Go p.tables e below T31 (mkF m 169 #[.val (.int p1), .val (.int p2), .val (.int (1 : Int32)), .val (.ref b1), .val (.ref b7), .val (.ref b13), .val (.ref b26), .unset, .unset, .unset, .unset] [(.ref b1)]) _
    refine go1 (fun _ => XS.astore X31.here hx rfl (hb hby at_169) rfl rfl (l' := #[.val (.int p1), .val (.int p2), .val (.int (1 : Int32)), .val (.ref b1), .val (.ref b7), .val (.ref b13), .val (.ref b26), .val (.ref b1), .unset, .unset, .unset]) rfl) ?_
    show Go p.tables e below T31 (mkF m 171 #[.val (.int p1), .val (.int p2), .val (.int (1 : Int32)), .val (.ref b1), .val (.ref b7), .val (.ref b13), .val (.ref b26), .val (.ref b1), .unset, .unset, .unset] []) _
    refine go1 (fun _ => XS.aload X31.here hx rfl (hb hby at_171) rfl rfl) ?_
    show Go p.tables e below T31 (mkF m 173 #[.val (.int p1), .val (.int p2), .val (.int (1 : Int32)), .val (.ref b1), .val (.ref b7), .val (.ref b13), .val (.ref b26), .val (.ref b1), .unset, .unset, .unset] [(.ref b26)]) _
    obtain ⟨cq32, kq32, q32a, q32b, q32c⟩ := isOf hZ rfl G31_0
    obtain ⟨_, _, ⟨T32, L32, k32, n32⟩, -, X32, ⟨Lc32, hQ32, l32, y32, z32⟩, st32⟩ := X31.virtualBack hx (y := (⟨"com/example/carmine/carmine/RedBlack$Links", "last", "()Lcom/example/carmine/carmine/Node;"⟩ : MethodName)) (z := (⟨"com/example/carmine/carmine/RedBlack$Links", "last", "()Lcom/example/carmine/carmine/Node;"⟩ : MethodName)) hown (mvT hZ (hw _ (List.mem_of_getElem? (i := 35) rfl))) (mvT hZ (hw _ (List.mem_of_getElem? (i := 36) rfl))) (notFace_of_selects (args := #[]) (mvT hZ (hw _ (List.mem_of_getElem? (i := 38) rfl)))) (mvT hZ (hw _ (List.mem_of_getElem? (i := 38) rfl))) (mvT hZ (hw _ (List.mem_of_getElem? (i := 37) rfl))) (by decide) (backOf (W := 0) (rm6 l Z a0 hw [] b26 (.ref b1) T31.heap n0 (Nat.le_trans (Nat.le_trans (Nat.le_trans (Nat.le_trans (Nat.le_trans (Nat.le_trans (Nat.le_trans (Nat.le_trans (Nat.le_trans (Nat.le_trans (Nat.le_trans (Nat.le_trans (Nat.le_trans (Nat.le_trans (Nat.le_trans (Nat.le_trans Z0 E1.1) K2.1) K4.1) K6.1) E7.1) K8.1) K10.1) K12.1) E13.1) K14.1) K16.1) (Keep.of_wr W19).1) (Keep.of_wr W22).1) (Keep.of_wr W25).1) E26.1) K31.1) G31_2 (by first | assumption | decide | rfl)) hZ (hw _ (List.mem_of_getElem? (i := 39) rfl)) (hw _ (List.mem_of_getElem? (i := 30) rfl)) (by decide) (by decide)) q32a q32c (g := (mkF m 173 #[.val (.int p1), .val (.int p2), .val (.int (1 : Int32)), .val (.ref b1), .val (.ref b7), .val (.ref b13), .val (.ref b26), .val (.ref b1), .unset, .unset, .unset] [(.ref b26)])) rfl (by rw [hml]; rfl) (Steps.refl _) (argsL := []) (rest := []) (lenOf pd0_4 rfl) rfl (by show 2 * 0 + _ ≤ _; exact Nat.le_of_eq rfl) (hb hby at_173) (fun _ _ => ⟨rfl, rfl, (by decide : 9 + 0 ≤ _), (by decide : 23 + 0 ≤ _)⟩)
    dsimp only [Pt.U, Pt.locs, Pt.cells, Pt.slots] at X32 l32 y32 z32 st32 hQ32
    subst l32 y32 z32
    obtain ⟨rfl, N32q, e32⟩ := hQ32
    have N32 := Fr.app N31 N32q
    refine goT st32 ?_
    show Go p.tables e below T32 (mkF m 176 #[.val (.int p1), .val (.int p2), .val (.int (1 : Int32)), .val (.ref b1), .val (.ref b7), .val (.ref b13), .val (.ref b26), .val (.ref b1), .unset, .unset, .unset] [(.ref b1)]) _
    refine go1 (fun _ => XS.aload X32.here hx rfl (hb hby at_176) rfl rfl) ?_
    show Go p.tables e below T32 (mkF m 178 #[.val (.int p1), .val (.int p2), .val (.int (1 : Int32)), .val (.ref b1), .val (.ref b7), .val (.ref b13), .val (.ref b26), .val (.ref b1), .unset, .unset, .unset] [(.ref b1), (.ref b1)]) _
    refine go1 (fun _ => Jvm.RoadKit.acmp (g := (mkF m 178 #[.val (.int p1), .val (.int p2), .val (.int (1 : Int32)), .val (.ref b1), .val (.ref b7), .val (.ref b13), .val (.ref b26), .val (.ref b1), .unset, .unset, .unset] [(.ref b1), (.ref b1)])) X32 hx rfl rfl rfl (pc0 := 178) (pc' := 181) (same := true) rfl (hb hby at_178) rfl (decide_eq_true rfl) (by decide) (by decide)) ?_
    show Go p.tables e below T32 (mkF m 181 #[.val (.int p1), .val (.int p2), .val (.int (1 : Int32)), .val (.ref b1), .val (.ref b7), .val (.ref b13), .val (.ref b26), .val (.ref b1), .unset, .unset, .unset] []) _
    refine go1 (fun _ => XS.aload X32.here hx rfl (hb hby at_181) rfl rfl) ?_
    show Go p.tables e below T32 (mkF m 183 #[.val (.int p1), .val (.int p2), .val (.int (1 : Int32)), .val (.ref b1), .val (.ref b7), .val (.ref b13), .val (.ref b26), .val (.ref b1), .unset, .unset, .unset] [(.ref b26)]) _
    obtain ⟨cq33, kq33, q33a, q33b, q33c⟩ := isOf hZ e32 G31_0
    obtain ⟨_, _, ⟨T33, L33, k33, n33⟩, -, X33, ⟨Lc33, hQ33, l33, y33, z33⟩, st33⟩ := X32.virtualBack hx (y := (⟨"com/example/carmine/carmine/RedBlack$Links", "size", "()I"⟩ : MethodName)) (z := (⟨"com/example/carmine/carmine/RedBlack$Links", "size", "()I"⟩ : MethodName)) hown (mvT hZ (hw _ (List.mem_of_getElem? (i := 42) rfl))) (mvT hZ (hw _ (List.mem_of_getElem? (i := 43) rfl))) (notFace_of_selects (args := #[]) (mvT hZ (hw _ (List.mem_of_getElem? (i := 45) rfl)))) (mvT hZ (hw _ (List.mem_of_getElem? (i := 45) rfl))) (mvT hZ (hw _ (List.mem_of_getElem? (i := 44) rfl))) (by decide) (backOf (W := 0) (rm7 l Z a0 hw [] b26 (1 : Int32) T31.heap n0 (Nat.le_trans (Nat.le_trans (Nat.le_trans (Nat.le_trans (Nat.le_trans (Nat.le_trans (Nat.le_trans (Nat.le_trans (Nat.le_trans (Nat.le_trans (Nat.le_trans (Nat.le_trans (Nat.le_trans (Nat.le_trans (Nat.le_trans (Nat.le_trans Z0 E1.1) K2.1) K4.1) K6.1) E7.1) K8.1) K10.1) K12.1) E13.1) K14.1) K16.1) (Keep.of_wr W19).1) (Keep.of_wr W22).1) (Keep.of_wr W25).1) E26.1) K31.1) G31_3) hZ (hw _ (List.mem_of_getElem? (i := 46) rfl)) (hw _ (List.mem_of_getElem? (i := 30) rfl)) (by decide) (by decide)) q33a q33c (g := (mkF m 183 #[.val (.int p1), .val (.int p2), .val (.int (1 : Int32)), .val (.ref b1), .val (.ref b7), .val (.ref b13), .val (.ref b26), .val (.ref b1), .unset, .unset, .unset] [(.ref b26)])) rfl (by rw [hml]; rfl) (Steps.refl _) (argsL := []) (rest := []) (lenOf pd0_5 rfl) rfl (by show 2 * 0 + _ ≤ _; exact Nat.le_of_eq rfl) (hb hby at_183) (fun _ _ => ⟨rfl, e32, (by decide : 9 + 0 ≤ _), (by decide : 23 + 0 ≤ _)⟩)
    dsimp only [Pt.U, Pt.locs, Pt.cells, Pt.slots] at X33 l33 y33 z33 st33 hQ33
    subst l33 y33 z33
    obtain ⟨rfl, N33q, e33⟩ := hQ33
    have N33 := Fr.app N32 N33q
    refine goT st33 ?_
    show Go p.tables e below T33 (mkF m 186 #[.val (.int p1), .val (.int p2), .val (.int (1 : Int32)), .val (.ref b1), .val (.ref b7), .val (.ref b13), .val (.ref b26), .val (.ref b1), .unset, .unset, .unset] [(.int (1 : Int32))]) _
    refine go1 (fun _ => XS.iloadN X33.here hx rfl (hb hby at_186) rfl) ?_
    show Go p.tables e below T33 (mkF m 187 #[.val (.int p1), .val (.int p2), .val (.int (1 : Int32)), .val (.ref b1), .val (.ref b7), .val (.ref b13), .val (.ref b26), .val (.ref b1), .unset, .unset, .unset] [(.int (1 : Int32)), (.int (1 : Int32))]) _
    refine go1 (fun _ => XS.icmpNo X33.here hx rfl (hb hby at_187) rfl (teq (by decide : (1 : Int32) = (1 : Int32))).2) ?_
    show Go p.tables e below T33 (mkF m 190 #[.val (.int p1), .val (.int p2), .val (.int (1 : Int32)), .val (.ref b1), .val (.ref b7), .val (.ref b13), .val (.ref b26), .val (.ref b1), .unset, .unset, .unset] []) _
    refine go1 (fun _ => XS.iconst X33.here hx rfl (hb hby at_190)) ?_
    show Go p.tables e below T33 (mkF m 191 #[.val (.int p1), .val (.int p2), .val (.int (1 : Int32)), .val (.ref b1), .val (.ref b7), .val (.ref b13), .val (.ref b26), .val (.ref b1), .unset, .unset, .unset] [(.int (1 : Int32))]) _
    refine go1 (fun _ => XS.goto X33.here hx rfl (pc0 := 191) (pc' := 195) rfl (hb hby at_191) (by decide) (by decide)) ?_
    show Go p.tables e below T33 (mkF m 195 #[.val (.int p1), .val (.int p2), .val (.int (1 : Int32)), .val (.ref b1), .val (.ref b7), .val (.ref b13), .val (.ref b26), .val (.ref b1), .unset, .unset, .unset] [(.int (1 : Int32))]) _
    refine go1 (fun _ => XS.istore X33.here hx rfl (hb hby at_195) rfl (l' := #[.val (.int p1), .val (.int p2), .val (.int (1 : Int32)), .val (.ref b1), .val (.ref b7), .val (.ref b13), .val (.ref b26), .val (.ref b1), .val (.int (1 : Int32)), .unset, .unset]) rfl) ?_
    show Go p.tables e below T33 (mkF m 197 #[.val (.int p1), .val (.int p2), .val (.int (1 : Int32)), .val (.ref b1), .val (.ref b7), .val (.ref b13), .val (.ref b26), .val (.ref b1), .val (.int (1 : Int32)), .unset, .unset] []) _
    refine go1 (fun _ => XS.iloadN X33.here hx rfl (hb hby at_197) rfl) ?_
    show Go p.tables e below T33 (mkF m 198 #[.val (.int p1), .val (.int p2), .val (.int (1 : Int32)), .val (.ref b1), .val (.ref b7), .val (.ref b13), .val (.ref b26), .val (.ref b1), .val (.int (1 : Int32)), .unset, .unset] [(.int (1 : Int32))]) _
    refine go1 (fun _ => XS.iconst X33.here hx rfl (hb hby at_198)) ?_
    show Go p.tables e below T33 (mkF m 199 #[.val (.int p1), .val (.int p2), .val (.int (1 : Int32)), .val (.ref b1), .val (.ref b7), .val (.ref b13), .val (.ref b26), .val (.ref b1), .val (.int (1 : Int32)), .unset, .unset] [(.int (2 : Int32)), (.int (1 : Int32))]) _
    refine go1 (fun _ => XS.icmpYes X33.here hx rfl (pc0 := 199) (pc' := 223) rfl (hb hby at_199) rfl (tlt (by decide : (1 : Int32) < (2 : Int32))).1 (by decide) (by decide)) ?_
    show Go p.tables e below T33 (mkF m 223 #[.val (.int p1), .val (.int p2), .val (.int (1 : Int32)), .val (.ref b1), .val (.ref b7), .val (.ref b13), .val (.ref b26), .val (.ref b1), .val (.int (1 : Int32)), .unset, .unset] []) _
    refine go1 (fun _ => XS.iloadN X33.here hx rfl (hb hby at_223) rfl) ?_
    show Go p.tables e below T33 (mkF m 224 #[.val (.int p1), .val (.int p2), .val (.int (1 : Int32)), .val (.ref b1), .val (.ref b7), .val (.ref b13), .val (.ref b26), .val (.ref b1), .val (.int (1 : Int32)), .unset, .unset] [(.int (1 : Int32))]) _
    refine go1 (fun _ => XS.iconst X33.here hx rfl (hb hby at_224)) ?_
    show Go p.tables e below T33 (mkF m 225 #[.val (.int p1), .val (.int p2), .val (.int (1 : Int32)), .val (.ref b1), .val (.ref b7), .val (.ref b13), .val (.ref b26), .val (.ref b1), .val (.int (1 : Int32)), .unset, .unset] [(.int (3 : Int32)), (.int (1 : Int32))]) _
    refine go1 (fun _ => XS.icmpYes X33.here hx rfl (pc0 := 225) (pc' := 250) rfl (hb hby at_225) rfl (tlt (by decide : (1 : Int32) < (3 : Int32))).1 (by decide) (by decide)) ?_
    show Go p.tables e below T33 (mkF m 250 #[.val (.int p1), .val (.int p2), .val (.int (1 : Int32)), .val (.ref b1), .val (.ref b7), .val (.ref b13), .val (.ref b26), .val (.ref b1), .val (.int (1 : Int32)), .unset, .unset] []) _
    refine go1 (fun _ => XS.aload X33.here hx rfl (hb hby at_250) rfl rfl) ?_
    show Go p.tables e below T33 (mkF m 252 #[.val (.int p1), .val (.int p2), .val (.int (1 : Int32)), .val (.ref b1), .val (.ref b7), .val (.ref b13), .val (.ref b26), .val (.ref b1), .val (.int (1 : Int32)), .unset, .unset] [(.ref b26)]) _
    obtain ⟨_, _, ⟨T34, L34, k34, n34⟩, -, X34, ⟨Lc34, hQ34, l34, y34, z34⟩, st34⟩ := Jvm.LawKit.callS X33 hx (y := (⟨"com/example/carmine/carmine/RedBlack", "build", "(Lcom/example/carmine/carmine/RedBlack$Links;)Lcom/example/carmine/carmine/Node;"⟩ : MethodName)) hown (mvT hZ (hw _ (List.mem_of_getElem? (i := 49) rfl))) (mvT hZ (hw _ (List.mem_of_getElem? (i := 50) rfl))) (mvT hZ (hw _ (List.mem_of_getElem? (i := 51) rfl))) (mvT hZ (hw _ (List.mem_of_getElem? (i := 52) rfl))) (by decide) (backOf (W := 0) (rm8_1 l Z a0 hw [] b26 b1 u18 .null (1 : Int32) T31.heap n0 (Nat.le_trans (Nat.le_trans (Nat.le_trans (Nat.le_trans (Nat.le_trans (Nat.le_trans (Nat.le_trans (Nat.le_trans (Nat.le_trans (Nat.le_trans (Nat.le_trans (Nat.le_trans (Nat.le_trans (Nat.le_trans (Nat.le_trans (Nat.le_trans Z0 E1.1) K2.1) K4.1) K6.1) E7.1) K8.1) K10.1) K12.1) E13.1) K14.1) K16.1) (Keep.of_wr W19).1) (Keep.of_wr W22).1) (Keep.of_wr W25).1) E26.1) K31.1) G31_1 G31_3 ((((((((((((G6_1.ext E7).keep K8 nin0).keep K10 nin0).keep K12 (ninS (Nat.ne_of_lt (Nat.lt_of_lt_of_le G6_3.lt (Nat.le_of_eq g7.symm))) nin0)).ext E13).keep K14 nin0).keep K16 (ninS (Nat.ne_of_lt (Nat.lt_of_lt_of_le ((((G6_3.ext E7).keep K8 nin0).keep K10 nin0).keep K12 (ninS (Nat.ne_of_lt (Nat.lt_of_lt_of_le G6_3.lt (Nat.le_of_eq g7.symm))) nin0)).lt (Nat.le_of_eq g13.symm))) nin0)).other W19 (Or.inr (slot_ne (Or.inl (hw _ (List.mem_of_getElem? (i := 109) rfl))) (Or.inl (hw _ (List.mem_of_getElem? (i := 27) rfl))) (by decide) (t := (.object "com/example/carmine/carmine/Node")) (t' := (.object "com/example/carmine/carmine/Node")) (by decide) (by decide)))).other W22 (Or.inl (Nat.ne_of_lt (Nat.lt_of_lt_of_le G6_3.lt (Nat.le_of_eq g7.symm))))).other W25 (Or.inl (Nat.ne_of_lt (Nat.lt_of_lt_of_le ((((G6_3.ext E7).keep K8 nin0).keep K10 nin0).keep K12 (ninS (Nat.ne_of_lt (Nat.lt_of_lt_of_le G6_3.lt (Nat.le_of_eq g7.symm))) nin0)).lt (Nat.le_of_eq g13.symm))))).ext E26).keep K31 (ninS (Nat.ne_of_lt (Nat.lt_of_lt_of_le ((Fw19.other W22 (Or.inl (Nat.ne_of_lt (Nat.lt_of_lt_of_le G6_3.lt (Nat.le_of_eq g7.symm))))).other W25 (Or.inl (Nat.ne_of_lt (Nat.lt_of_lt_of_le ((((G6_3.ext E7).keep K8 nin0).keep K10 nin0).keep K12 (ninS (Nat.ne_of_lt (Nat.lt_of_lt_of_le G6_3.lt (Nat.le_of_eq g7.symm))) nin0)).lt (Nat.le_of_eq g13.symm))))).lt (Nat.le_of_eq g26.symm))) nin0)) ((((((((((((G6_3.ext E7).keep K8 nin0).keep K10 nin0).keep K12 (ninS (Nat.ne_of_lt (Nat.lt_of_lt_of_le G6_3.lt (Nat.le_of_eq g7.symm))) nin0)).ext E13).keep K14 nin0).keep K16 (ninS (Nat.ne_of_lt (Nat.lt_of_lt_of_le ((((G6_3.ext E7).keep K8 nin0).keep K10 nin0).keep K12 (ninS (Nat.ne_of_lt (Nat.lt_of_lt_of_le G6_3.lt (Nat.le_of_eq g7.symm))) nin0)).lt (Nat.le_of_eq g13.symm))) nin0)).other W19 (Or.inr (slot_ne (Or.inl (hw _ (List.mem_of_getElem? (i := 21) rfl))) (Or.inl (hw _ (List.mem_of_getElem? (i := 27) rfl))) (by decide) (t := .int) (t' := (.object "com/example/carmine/carmine/Node")) (by decide) (by decide)))).other W22 (Or.inl (Nat.ne_of_lt (Nat.lt_of_lt_of_le G6_3.lt (Nat.le_of_eq g7.symm))))).other W25 (Or.inl (Nat.ne_of_lt (Nat.lt_of_lt_of_le ((((G6_3.ext E7).keep K8 nin0).keep K10 nin0).keep K12 (ninS (Nat.ne_of_lt (Nat.lt_of_lt_of_le G6_3.lt (Nat.le_of_eq g7.symm))) nin0)).lt (Nat.le_of_eq g13.symm))))).ext E26).keep K31 (ninS (Nat.ne_of_lt (Nat.lt_of_lt_of_le ((Fw19.other W22 (Or.inl (Nat.ne_of_lt (Nat.lt_of_lt_of_le G6_3.lt (Nat.le_of_eq g7.symm))))).other W25 (Or.inl (Nat.ne_of_lt (Nat.lt_of_lt_of_le ((((G6_3.ext E7).keep K8 nin0).keep K10 nin0).keep K12 (ninS (Nat.ne_of_lt (Nat.lt_of_lt_of_le G6_3.lt (Nat.le_of_eq g7.symm))) nin0)).lt (Nat.le_of_eq g13.symm))))).lt (Nat.le_of_eq g26.symm))) nin0)) ((((Fw19.other W22 (Or.inl (Nat.ne_of_lt (Nat.lt_of_lt_of_le G6_3.lt (Nat.le_of_eq g7.symm))))).other W25 (Or.inl (Nat.ne_of_lt (Nat.lt_of_lt_of_le ((((G6_3.ext E7).keep K8 nin0).keep K10 nin0).keep K12 (ninS (Nat.ne_of_lt (Nat.lt_of_lt_of_le G6_3.lt (Nat.le_of_eq g7.symm))) nin0)).lt (Nat.le_of_eq g13.symm))))).ext E26).keep K31 (ninS (Nat.ne_of_lt (Nat.lt_of_lt_of_le ((Fw19.other W22 (Or.inl (Nat.ne_of_lt (Nat.lt_of_lt_of_le G6_3.lt (Nat.le_of_eq g7.symm))))).other W25 (Or.inl (Nat.ne_of_lt (Nat.lt_of_lt_of_le ((((G6_3.ext E7).keep K8 nin0).keep K10 nin0).keep K12 (ninS (Nat.ne_of_lt (Nat.lt_of_lt_of_le G6_3.lt (Nat.le_of_eq g7.symm))) nin0)).lt (Nat.le_of_eq g13.symm))))).lt (Nat.le_of_eq g26.symm))) nin0)) ((((((((((((G6_0.ext E7).keep K8).keep K10).keep K12).ext E13).keep K14).keep K16).wr W19).wr W22).wr W25).ext E26).keep K31) g_b1 G17_0 G31_0) hZ (hw _ (List.mem_of_getElem? (i := 52) rfl)) (hw _ (List.mem_of_getElem? (i := 51) rfl)) (by decide) (by decide)) (g := (mkF m 252 #[.val (.int p1), .val (.int p2), .val (.int (1 : Int32)), .val (.ref b1), .val (.ref b7), .val (.ref b13), .val (.ref b26), .val (.ref b1), .val (.int (1 : Int32)), .unset, .unset] [(.ref b26)])) rfl (by rw [hml]; rfl) (argsL := [(.ref b26)]) (rest := []) (lenOf pd0_6 rfl) rfl (by show 2 * 0 + _ ≤ _; exact Nat.le_of_eq rfl) (hb hby at_252) (fun _ _ => ⟨rfl, e33, (by decide : 9 + 1 ≤ _), (by decide : 23 + 6 ≤ _)⟩)
    dsimp only [Pt.U, Pt.locs, Pt.cells, Pt.slots] at X34 l34 y34 z34 st34 hQ34
    subst l34 y34 z34
    obtain ⟨rfl, N34q, K34, G34_0, G34_1, G34_2⟩ := hQ34
    have N34 := Fr.app N33 N34q
    refine go1 st34 ?_
    show Go p.tables e below T34 (mkF m 255 #[.val (.int p1), .val (.int p2), .val (.int (1 : Int32)), .val (.ref b1), .val (.ref b7), .val (.ref b13), .val (.ref b26), .val (.ref b1), .val (.int (1 : Int32)), .unset, .unset] [(.ref b1)]) _
    refine go1 (fun _ => XS.astore X34.here hx rfl (hb hby at_255) rfl rfl (l' := #[.val (.int p1), .val (.int p2), .val (.int (1 : Int32)), .val (.ref b1), .val (.ref b7), .val (.ref b13), .val (.ref b26), .val (.ref b1), .val (.int (1 : Int32)), .val (.ref b1), .unset]) rfl) ?_
    show Go p.tables e below T34 (mkF m 257 #[.val (.int p1), .val (.int p2), .val (.int (1 : Int32)), .val (.ref b1), .val (.ref b7), .val (.ref b13), .val (.ref b26), .val (.ref b1), .val (.int (1 : Int32)), .val (.ref b1), .unset] []) _
    refine go1 (fun _ => XS.iloadN X34.here hx rfl (hb hby at_257) rfl) ?_
    show Go p.tables e below T34 (mkF m 258 #[.val (.int p1), .val (.int p2), .val (.int (1 : Int32)), .val (.ref b1), .val (.ref b7), .val (.ref b13), .val (.ref b26), .val (.ref b1), .val (.int (1 : Int32)), .val (.ref b1), .unset] [(.int (1 : Int32))]) _
    refine go1 (fun _ => XS.ifYes X34.here hx rfl (pc0 := 258) (pc' := 276) rfl (hb hby at_258) rfl ((if0 _ _).trans (feq (by decide : ¬ ((1 : Int32) = (0 : Int32)))).2) (by decide) (by decide)) ?_
    show Go p.tables e below T34 (mkF m 276 #[.val (.int p1), .val (.int p2), .val (.int (1 : Int32)), .val (.ref b1), .val (.ref b7), .val (.ref b13), .val (.ref b26), .val (.ref b1), .val (.int (1 : Int32)), .val (.ref b1), .unset] []) _
    refine go1 (fun _ => XS.iloadN X34.here hx rfl (hb hby at_276) rfl) ?_
    show Go p.tables e below T34 (mkF m 277 #[.val (.int p1), .val (.int p2), .val (.int (1 : Int32)), .val (.ref b1), .val (.ref b7), .val (.ref b13), .val (.ref b26), .val (.ref b1), .val (.int (1 : Int32)), .val (.ref b1), .unset] [(.int (1 : Int32))]) _
    refine go1 (fun _ => XS.iconst X34.here hx rfl (hb hby at_277)) ?_
    show Go p.tables e below T34 (mkF m 278 #[.val (.int p1), .val (.int p2), .val (.int (1 : Int32)), .val (.ref b1), .val (.ref b7), .val (.ref b13), .val (.ref b26), .val (.ref b1), .val (.int (1 : Int32)), .val (.ref b1), .unset] [(.int (1 : Int32)), (.int (1 : Int32))]) _
    refine go1 (fun _ => XS.icmpNo X34.here hx rfl (hb hby at_278) rfl (teq (by decide : (1 : Int32) = (1 : Int32))).2) ?_
    show Go p.tables e below T34 (mkF m 281 #[.val (.int p1), .val (.int p2), .val (.int (1 : Int32)), .val (.ref b1), .val (.ref b7), .val (.ref b13), .val (.ref b26), .val (.ref b1), .val (.int (1 : Int32)), .val (.ref b1), .unset] []) _
    refine go1 (fun _ => XS.aload X34.here hx rfl (hb hby at_281) rfl rfl) ?_
    show Go p.tables e below T34 (mkF m 283 #[.val (.int p1), .val (.int p2), .val (.int (1 : Int32)), .val (.ref b1), .val (.ref b7), .val (.ref b13), .val (.ref b26), .val (.ref b1), .val (.int (1 : Int32)), .val (.ref b1), .unset] [(.ref b1)]) _
    refine go1 (fun _ => XS.aloadN X34.here hx rfl (hb hby at_283) rfl rfl) ?_
    show Go p.tables e below T34 (mkF m 284 #[.val (.int p1), .val (.int p2), .val (.int (1 : Int32)), .val (.ref b1), .val (.ref b7), .val (.ref b13), .val (.ref b26), .val (.ref b1), .val (.int (1 : Int32)), .val (.ref b1), .unset] [(.ref b1), (.ref b1)]) _
    refine go1 (fun _ => Jvm.RoadKit.acmp (g := (mkF m 284 #[.val (.int p1), .val (.int p2), .val (.int (1 : Int32)), .val (.ref b1), .val (.ref b7), .val (.ref b13), .val (.ref b26), .val (.ref b1), .val (.int (1 : Int32)), .val (.ref b1), .unset] [(.ref b1), (.ref b1)])) X34 hx rfl rfl rfl (pc0 := 284) (pc' := 287) (same := true) rfl (hb hby at_284) rfl (decide_eq_true rfl) (by decide) (by decide)) ?_
    show Go p.tables e below T34 (mkF m 287 #[.val (.int p1), .val (.int p2), .val (.int (1 : Int32)), .val (.ref b1), .val (.ref b7), .val (.ref b13), .val (.ref b26), .val (.ref b1), .val (.int (1 : Int32)), .val (.ref b1), .unset] []) _
    refine go1 (fun _ => XS.iconst X34.here hx rfl (hb hby at_287)) ?_
    show Go p.tables e below T34 (mkF m 288 #[.val (.int p1), .val (.int p2), .val (.int (1 : Int32)), .val (.ref b1), .val (.ref b7), .val (.ref b13), .val (.ref b26), .val (.ref b1), .val (.int (1 : Int32)), .val (.ref b1), .unset] [(.int (1 : Int32))]) _
    refine go1 (fun _ => XS.goto X34.here hx rfl (pc0 := 288) (pc' := 292) rfl (hb hby at_288) (by decide) (by decide)) ?_
    show Go p.tables e below T34 (mkF m 292 #[.val (.int p1), .val (.int p2), .val (.int (1 : Int32)), .val (.ref b1), .val (.ref b7), .val (.ref b13), .val (.ref b26), .val (.ref b1), .val (.int (1 : Int32)), .val (.ref b1), .unset] [(.int (1 : Int32))]) _
    refine go1 (fun _ => XS.istore X34.here hx rfl (hb hby at_292) rfl (l' := #[.val (.int p1), .val (.int p2), .val (.int (1 : Int32)), .val (.ref b1), .val (.ref b7), .val (.ref b13), .val (.ref b26), .val (.ref b1), .val (.int (1 : Int32)), .val (.ref b1), .val (.int (1 : Int32))]) rfl) ?_
    show Go p.tables e below T34 (mkF m 294 #[.val (.int p1), .val (.int p2), .val (.int (1 : Int32)), .val (.ref b1), .val (.ref b7), .val (.ref b13), .val (.ref b26), .val (.ref b1), .val (.int (1 : Int32)), .val (.ref b1), .val (.int (1 : Int32))] []) _
    refine go1 (fun _ => XS.goto X34.here hx rfl (pc0 := 294) (pc' := 367) rfl (hb hby at_294) (by decide) (by decide)) ?_
    show Go p.tables e below T34 (mkF m 367 #[.val (.int p1), .val (.int p2), .val (.int (1 : Int32)), .val (.ref b1), .val (.ref b7), .val (.ref b13), .val (.ref b26), .val (.ref b1), .val (.int (1 : Int32)), .val (.ref b1), .val (.int (1 : Int32))] []) _
    refine go1 (fun _ => XS.iload X34.here hx rfl (hb hby at_367) rfl) ?_
    show Go p.tables e below T34 (mkF m 369 #[.val (.int p1), .val (.int p2), .val (.int (1 : Int32)), .val (.ref b1), .val (.ref b7), .val (.ref b13), .val (.ref b26), .val (.ref b1), .val (.int (1 : Int32)), .val (.ref b1), .val (.int (1 : Int32))] [(.int (1 : Int32))]) _
    refine go1 (fun _ => XS.ifNo X34.here hx rfl (hb hby at_369) rfl ((if0 _ _).trans (feq (by decide : ¬ ((1 : Int32) = (0 : Int32)))).1)) ?_
    show Go p.tables e below T34 (mkF m 372 #[.val (.int p1), .val (.int p2), .val (.int (1 : Int32)), .val (.ref b1), .val (.ref b7), .val (.ref b13), .val (.ref b26), .val (.ref b1), .val (.int (1 : Int32)), .val (.ref b1), .val (.int (1 : Int32))] []) _
    refine go1 (fun _ => XS.iload X34.here hx rfl (hb hby at_372) rfl) ?_
    show Go p.tables e below T34 (mkF m 374 #[.val (.int p1), .val (.int p2), .val (.int (1 : Int32)), .val (.ref b1), .val (.ref b7), .val (.ref b13), .val (.ref b26), .val (.ref b1), .val (.int (1 : Int32)), .val (.ref b1), .val (.int (1 : Int32))] [(.int (1 : Int32))]) _
    refine go1 (fun _ => XS.ifNo X34.here hx rfl (hb hby at_374) rfl ((if0 _ _).trans (feq (by decide : ¬ ((1 : Int32) = (0 : Int32)))).1)) ?_
    show Go p.tables e below T34 (mkF m 377 #[.val (.int p1), .val (.int p2), .val (.int (1 : Int32)), .val (.ref b1), .val (.ref b7), .val (.ref b13), .val (.ref b26), .val (.ref b1), .val (.int (1 : Int32)), .val (.ref b1), .val (.int (1 : Int32))] []) _
    refine go1 (fun _ => XS.iconst X34.here hx rfl (hb hby at_377)) ?_
    show Go p.tables e below T34 (mkF m 378 #[.val (.int p1), .val (.int p2), .val (.int (1 : Int32)), .val (.ref b1), .val (.ref b7), .val (.ref b13), .val (.ref b26), .val (.ref b1), .val (.int (1 : Int32)), .val (.ref b1), .val (.int (1 : Int32))] [(.int (1 : Int32))]) _
    refine go1 (fun _ => XS.goto X34.here hx rfl (pc0 := 378) (pc' := 382) rfl (hb hby at_378) (by decide) (by decide)) ?_
    show Go p.tables e below T34 (mkF m 382 #[.val (.int p1), .val (.int p2), .val (.int (1 : Int32)), .val (.ref b1), .val (.ref b7), .val (.ref b13), .val (.ref b26), .val (.ref b1), .val (.int (1 : Int32)), .val (.ref b1), .val (.int (1 : Int32))] [(.int (1 : Int32))]) _
    refine goR X34 (BodyLoose.notSynchronized Bd) (v := (some (.int (1 : Int32)))) (fun h => by rw [Bd.returns] at h; cases h) (Q0 Z p1 p2 a_cache h0 n0) (fun fs hr => retN X34 hx (t := .boolean) Bd.returns (by simp) (hb hby at_382) hr) (by decide) (by decide) ?_
    show Q0 Z p1 p2 a_cache h0 n0 _ T34.heap _
    exact ⟨rfl, N34⟩
  · skip
    rw [hn]
    show Go p.tables e below T27 (mkF m 105 #[.val (.int p1), .val (.int p2), .val (.int (2 : Int32)), .val (.ref b1), .val (.ref b7), .val (.ref b13), .val (.ref b26), .unset, .unset, .unset, .unset] []) _
    refine go1 (fun _ => XS.iloadN X27.here hx rfl (hb hby at_105) rfl) ?_
    show Go p.tables e below T27 (mkF m 106 #[.val (.int p1), .val (.int p2), .val (.int (2 : Int32)), .val (.ref b1), .val (.ref b7), .val (.ref b13), .val (.ref b26), .unset, .unset, .unset, .unset] [(.int (2 : Int32))]) _
    refine go1 (fun _ => XS.iconst X27.here hx rfl (hb hby at_106)) ?_
    show Go p.tables e below T27 (mkF m 107 #[.val (.int p1), .val (.int p2), .val (.int (2 : Int32)), .val (.ref b1), .val (.ref b7), .val (.ref b13), .val (.ref b26), .unset, .unset, .unset, .unset] [(.int (1 : Int32)), (.int (2 : Int32))]) _
    refine go1 (fun _ => XS.icmpNo X27.here hx rfl (hb hby at_107) rfl (flt (by decide : ¬ ((2 : Int32) < (1 : Int32)))).1) ?_
    show Go p.tables e below T27 (mkF m 110 #[.val (.int p1), .val (.int p2), .val (.int (2 : Int32)), .val (.ref b1), .val (.ref b7), .val (.ref b13), .val (.ref b26), .unset, .unset, .unset, .unset] []) _
    refine go1 (fun _ => XS.aload X27.here hx rfl (hb hby at_110) rfl rfl) ?_
    show Go p.tables e below T27 (mkF m 112 #[.val (.int p1), .val (.int p2), .val (.int (2 : Int32)), .val (.ref b1), .val (.ref b7), .val (.ref b13), .val (.ref b26), .unset, .unset, .unset, .unset] [(.ref b26)]) _
    refine go1 (fun _ => XS.aloadN X27.here hx rfl (hb hby at_112) rfl rfl) ?_
    show Go p.tables e below T27 (mkF m 113 #[.val (.int p1), .val (.int p2), .val (.int (2 : Int32)), .val (.ref b1), .val (.ref b7), .val (.ref b13), .val (.ref b26), .unset, .unset, .unset, .unset] [(.ref b1), (.ref b26)]) _
    obtain ⟨cq35, kq35, q35a, q35b, q35c⟩ := isOf hZ e27 A26
    obtain ⟨_, _, ⟨T35, L35, k35, n35⟩, -, X35, ⟨Lc35, hQ35, l35, y35, z35⟩, st35⟩ := X27.virtualBack hx (y := (⟨"com/example/carmine/carmine/RedBlack$Links", "add", "(Lcom/example/carmine/carmine/Node;)V"⟩ : MethodName)) (z := (⟨"com/example/carmine/carmine/RedBlack$Links", "add", "(Lcom/example/carmine/carmine/Node;)V"⟩ : MethodName)) hown (mvT hZ (hw _ (List.mem_of_getElem? (i := 81) rfl))) (mvT hZ (hw _ (List.mem_of_getElem? (i := 82) rfl))) (notFace_of_selects (args := #[]) (mvT hZ (hw _ (List.mem_of_getElem? (i := 84) rfl)))) (mvT hZ (hw _ (List.mem_of_getElem? (i := 84) rfl))) (mvT hZ (hw _ (List.mem_of_getElem? (i := 83) rfl))) (by decide) (backOf (W := 0) (rm14a l Z a0 hw [] b26 b1 (0 : Int32) h26 n0 (Nat.le_trans (Nat.le_trans (Nat.le_trans (Nat.le_trans (Nat.le_trans (Nat.le_trans (Nat.le_trans (Nat.le_trans (Nat.le_trans (Nat.le_trans (Nat.le_trans (Nat.le_trans (Nat.le_trans (Nat.le_trans (Nat.le_trans Z0 E1.1) K2.1) K4.1) K6.1) E7.1) K8.1) K10.1) K12.1) E13.1) K14.1) K16.1) (Keep.of_wr W19).1) (Keep.of_wr W22).1) (Keep.of_wr W25).1) E26.1) F_first_b26 F_last_b26 F_size_b26 A26 g_b26) hZ (hw _ (List.mem_of_getElem? (i := 85) rfl)) (hw _ (List.mem_of_getElem? (i := 30) rfl)) (by decide) (by decide)) q35a q35c (g := (mkF m 113 #[.val (.int p1), .val (.int p2), .val (.int (2 : Int32)), .val (.ref b1), .val (.ref b7), .val (.ref b13), .val (.ref b26), .unset, .unset, .unset, .unset] [(.ref b1), (.ref b26)])) rfl (by rw [hml]; rfl) (Steps.refl _) (argsL := [(.ref b1)]) (rest := []) (lenOf pd0_7 rfl) rfl (by show 2 * 0 + _ ≤ _; exact Nat.le_of_eq rfl) (hb hby at_113) (fun _ _ => ⟨rfl, e27, (by decide : 9 + 0 ≤ _), (by decide : 23 + 0 ≤ _)⟩)
    dsimp only [Pt.U, Pt.locs, Pt.cells, Pt.slots] at X35 l35 y35 z35 st35 hQ35
    subst l35 y35 z35
    obtain ⟨rfl, N35q, K35, G35_0, G35_1, G35_2, G35_3⟩ := hQ35
    have N35 := Fr.app N27 N35q
    refine goT st35 ?_
    show Go p.tables e below T35 (mkF m 116 #[.val (.int p1), .val (.int p2), .val (.int (2 : Int32)), .val (.ref b1), .val (.ref b7), .val (.ref b13), .val (.ref b26), .unset, .unset, .unset, .unset] []) _
    refine go1 (fun _ => XS.iloadN X35.here hx rfl (hb hby at_116) rfl) ?_
    show Go p.tables e below T35 (mkF m 117 #[.val (.int p1), .val (.int p2), .val (.int (2 : Int32)), .val (.ref b1), .val (.ref b7), .val (.ref b13), .val (.ref b26), .unset, .unset, .unset, .unset] [(.int (2 : Int32))]) _
    refine go1 (fun _ => XS.iconst X35.here hx rfl (hb hby at_117)) ?_
    show Go p.tables e below T35 (mkF m 118 #[.val (.int p1), .val (.int p2), .val (.int (2 : Int32)), .val (.ref b1), .val (.ref b7), .val (.ref b13), .val (.ref b26), .unset, .unset, .unset, .unset] [(.int (2 : Int32)), (.int (2 : Int32))]) _
    refine go1 (fun _ => XS.icmpNo X35.here hx rfl (hb hby at_118) rfl (flt (by decide : ¬ ((2 : Int32) < (2 : Int32)))).1) ?_
    show Go p.tables e below T35 (mkF m 121 #[.val (.int p1), .val (.int p2), .val (.int (2 : Int32)), .val (.ref b1), .val (.ref b7), .val (.ref b13), .val (.ref b26), .unset, .unset, .unset, .unset] []) _
    refine go1 (fun _ => XS.aload X35.here hx rfl (hb hby at_121) rfl rfl) ?_
    show Go p.tables e below T35 (mkF m 123 #[.val (.int p1), .val (.int p2), .val (.int (2 : Int32)), .val (.ref b1), .val (.ref b7), .val (.ref b13), .val (.ref b26), .unset, .unset, .unset, .unset] [(.ref b26)]) _
    refine go1 (fun _ => XS.aload X35.here hx rfl (hb hby at_123) rfl rfl) ?_
    show Go p.tables e below T35 (mkF m 125 #[.val (.int p1), .val (.int p2), .val (.int (2 : Int32)), .val (.ref b1), .val (.ref b7), .val (.ref b13), .val (.ref b26), .unset, .unset, .unset, .unset] [(.ref b7), (.ref b26)]) _
    obtain ⟨cq36, kq36, q36a, q36b, q36c⟩ := isOf hZ rfl G35_0
    obtain ⟨_, _, ⟨T36, L36, k36, n36⟩, -, X36, ⟨Lc36, hQ36, l36, y36, z36⟩, st36⟩ := X35.virtualBack hx (y := (⟨"com/example/carmine/carmine/RedBlack$Links", "add", "(Lcom/example/carmine/carmine/Node;)V"⟩ : MethodName)) (z := (⟨"com/example/carmine/carmine/RedBlack$Links", "add", "(Lcom/example/carmine/carmine/Node;)V"⟩ : MethodName)) hown (mvT hZ (hw _ (List.mem_of_getElem? (i := 81) rfl))) (mvT hZ (hw _ (List.mem_of_getElem? (i := 82) rfl))) (notFace_of_selects (args := #[]) (mvT hZ (hw _ (List.mem_of_getElem? (i := 84) rfl)))) (mvT hZ (hw _ (List.mem_of_getElem? (i := 84) rfl))) (mvT hZ (hw _ (List.mem_of_getElem? (i := 83) rfl))) (by decide) (backOf (W := 0) (rm14b l Z a0 hw [] b26 b7 (1 : Int32) b1 b1 .null (1 : Int32) u18 T35.heap n0 (Nat.le_trans (Nat.le_trans (Nat.le_trans (Nat.le_trans (Nat.le_trans (Nat.le_trans (Nat.le_trans (Nat.le_trans (Nat.le_trans (Nat.le_trans (Nat.le_trans (Nat.le_trans (Nat.le_trans (Nat.le_trans (Nat.le_trans (Nat.le_trans Z0 E1.1) K2.1) K4.1) K6.1) E7.1) K8.1) K10.1) K12.1) E13.1) K14.1) K16.1) (Keep.of_wr W19).1) (Keep.of_wr W22).1) (Keep.of_wr W25).1) E26.1) K35.1) G35_1 G35_2 G35_3 G35_0 g_b26 ((((((((((((G6_0.ext E7).keep K8).keep K10).keep K12).ext E13).keep K14).keep K16).wr W19).wr W22).wr W25).ext E26).keep K35) g_b1 ((((((((((((G6_1.ext E7).keep K8 nin0).keep K10 nin0).keep K12 (ninS (Nat.ne_of_lt (Nat.lt_of_lt_of_le G6_3.lt (Nat.le_of_eq g7.symm))) nin0)).ext E13).keep K14 nin0).keep K16 (ninS (Nat.ne_of_lt (Nat.lt_of_lt_of_le ((((G6_3.ext E7).keep K8 nin0).keep K10 nin0).keep K12 (ninS (Nat.ne_of_lt (Nat.lt_of_lt_of_le G6_3.lt (Nat.le_of_eq g7.symm))) nin0)).lt (Nat.le_of_eq g13.symm))) nin0)).other W19 (Or.inr (slot_ne (Or.inl (hw _ (List.mem_of_getElem? (i := 109) rfl))) (Or.inl (hw _ (List.mem_of_getElem? (i := 27) rfl))) (by decide) (t := (.object "com/example/carmine/carmine/Node")) (t' := (.object "com/example/carmine/carmine/Node")) (by decide) (by decide)))).other W22 (Or.inl (Nat.ne_of_lt (Nat.lt_of_lt_of_le G6_3.lt (Nat.le_of_eq g7.symm))))).other W25 (Or.inl (Nat.ne_of_lt (Nat.lt_of_lt_of_le ((((G6_3.ext E7).keep K8 nin0).keep K10 nin0).keep K12 (ninS (Nat.ne_of_lt (Nat.lt_of_lt_of_le G6_3.lt (Nat.le_of_eq g7.symm))) nin0)).lt (Nat.le_of_eq g13.symm))))).ext E26).keep K35 (ninS (Nat.ne_of_lt (Nat.lt_of_lt_of_le ((Fw19.other W22 (Or.inl (Nat.ne_of_lt (Nat.lt_of_lt_of_le G6_3.lt (Nat.le_of_eq g7.symm))))).other W25 (Or.inl (Nat.ne_of_lt (Nat.lt_of_lt_of_le ((((G6_3.ext E7).keep K8 nin0).keep K10 nin0).keep K12 (ninS (Nat.ne_of_lt (Nat.lt_of_lt_of_le G6_3.lt (Nat.le_of_eq g7.symm))) nin0)).lt (Nat.le_of_eq g13.symm))))).lt (Nat.le_of_eq g26.symm))) nin0)) ((((((((((((G6_3.ext E7).keep K8 nin0).keep K10 nin0).keep K12 (ninS (Nat.ne_of_lt (Nat.lt_of_lt_of_le G6_3.lt (Nat.le_of_eq g7.symm))) nin0)).ext E13).keep K14 nin0).keep K16 (ninS (Nat.ne_of_lt (Nat.lt_of_lt_of_le ((((G6_3.ext E7).keep K8 nin0).keep K10 nin0).keep K12 (ninS (Nat.ne_of_lt (Nat.lt_of_lt_of_le G6_3.lt (Nat.le_of_eq g7.symm))) nin0)).lt (Nat.le_of_eq g13.symm))) nin0)).other W19 (Or.inr (slot_ne (Or.inl (hw _ (List.mem_of_getElem? (i := 21) rfl))) (Or.inl (hw _ (List.mem_of_getElem? (i := 27) rfl))) (by decide) (t := .int) (t' := (.object "com/example/carmine/carmine/Node")) (by decide) (by decide)))).other W22 (Or.inl (Nat.ne_of_lt (Nat.lt_of_lt_of_le G6_3.lt (Nat.le_of_eq g7.symm))))).other W25 (Or.inl (Nat.ne_of_lt (Nat.lt_of_lt_of_le ((((G6_3.ext E7).keep K8 nin0).keep K10 nin0).keep K12 (ninS (Nat.ne_of_lt (Nat.lt_of_lt_of_le G6_3.lt (Nat.le_of_eq g7.symm))) nin0)).lt (Nat.le_of_eq g13.symm))))).ext E26).keep K35 (ninS (Nat.ne_of_lt (Nat.lt_of_lt_of_le ((Fw19.other W22 (Or.inl (Nat.ne_of_lt (Nat.lt_of_lt_of_le G6_3.lt (Nat.le_of_eq g7.symm))))).other W25 (Or.inl (Nat.ne_of_lt (Nat.lt_of_lt_of_le ((((G6_3.ext E7).keep K8 nin0).keep K10 nin0).keep K12 (ninS (Nat.ne_of_lt (Nat.lt_of_lt_of_le G6_3.lt (Nat.le_of_eq g7.symm))) nin0)).lt (Nat.le_of_eq g13.symm))))).lt (Nat.le_of_eq g26.symm))) nin0)) ((((Fw19.other W22 (Or.inl (Nat.ne_of_lt (Nat.lt_of_lt_of_le G6_3.lt (Nat.le_of_eq g7.symm))))).other W25 (Or.inl (Nat.ne_of_lt (Nat.lt_of_lt_of_le ((((G6_3.ext E7).keep K8 nin0).keep K10 nin0).keep K12 (ninS (Nat.ne_of_lt (Nat.lt_of_lt_of_le G6_3.lt (Nat.le_of_eq g7.symm))) nin0)).lt (Nat.le_of_eq g13.symm))))).ext E26).keep K35 (ninS (Nat.ne_of_lt (Nat.lt_of_lt_of_le ((Fw19.other W22 (Or.inl (Nat.ne_of_lt (Nat.lt_of_lt_of_le G6_3.lt (Nat.le_of_eq g7.symm))))).other W25 (Or.inl (Nat.ne_of_lt (Nat.lt_of_lt_of_le ((((G6_3.ext E7).keep K8 nin0).keep K10 nin0).keep K12 (ninS (Nat.ne_of_lt (Nat.lt_of_lt_of_le G6_3.lt (Nat.le_of_eq g7.symm))) nin0)).lt (Nat.le_of_eq g13.symm))))).lt (Nat.le_of_eq g26.symm))) nin0)) (Nat.ne_of_lt (Nat.lt_of_lt_of_le ((Fw19.other W22 (Or.inl (Nat.ne_of_lt (Nat.lt_of_lt_of_le G6_3.lt (Nat.le_of_eq g7.symm))))).other W25 (Or.inl (Nat.ne_of_lt (Nat.lt_of_lt_of_le ((((G6_3.ext E7).keep K8 nin0).keep K10 nin0).keep K12 (ninS (Nat.ne_of_lt (Nat.lt_of_lt_of_le G6_3.lt (Nat.le_of_eq g7.symm))) nin0)).lt (Nat.le_of_eq g13.symm))))).lt (Nat.le_of_eq g26.symm)))) hZ (hw _ (List.mem_of_getElem? (i := 85) rfl)) (hw _ (List.mem_of_getElem? (i := 30) rfl)) (by decide) (by decide)) q36a q36c (g := (mkF m 125 #[.val (.int p1), .val (.int p2), .val (.int (2 : Int32)), .val (.ref b1), .val (.ref b7), .val (.ref b13), .val (.ref b26), .unset, .unset, .unset, .unset] [(.ref b7), (.ref b26)])) rfl (by rw [hml]; rfl) (Steps.refl _) (argsL := [(.ref b7)]) (rest := []) (lenOf pd0_7 rfl) rfl (by show 2 * 0 + _ ≤ _; exact Nat.le_of_eq rfl) (hb hby at_125) (fun _ _ => ⟨rfl, rfl, (by decide : 9 + 0 ≤ _), (by decide : 23 + 0 ≤ _)⟩)
    dsimp only [Pt.U, Pt.locs, Pt.cells, Pt.slots] at X36 l36 y36 z36 st36 hQ36
    subst l36 y36 z36
    obtain ⟨rfl, N36q, K36, G36_0, G36_1, G36_2, G36_3, G36_4, G36_5, G36_6, G36_7⟩ := hQ36
    have N36 := Fr.app N35 N36q
    refine goT st36 ?_
    show Go p.tables e below T36 (mkF m 128 #[.val (.int p1), .val (.int p2), .val (.int (2 : Int32)), .val (.ref b1), .val (.ref b7), .val (.ref b13), .val (.ref b26), .unset, .unset, .unset, .unset] []) _
    refine go1 (fun _ => XS.iloadN X36.here hx rfl (hb hby at_128) rfl) ?_
    show Go p.tables e below T36 (mkF m 129 #[.val (.int p1), .val (.int p2), .val (.int (2 : Int32)), .val (.ref b1), .val (.ref b7), .val (.ref b13), .val (.ref b26), .unset, .unset, .unset, .unset] [(.int (2 : Int32))]) _
    refine go1 (fun _ => XS.iconst X36.here hx rfl (hb hby at_129)) ?_
    show Go p.tables e below T36 (mkF m 130 #[.val (.int p1), .val (.int p2), .val (.int (2 : Int32)), .val (.ref b1), .val (.ref b7), .val (.ref b13), .val (.ref b26), .unset, .unset, .unset, .unset] [(.int (3 : Int32)), (.int (2 : Int32))]) _
    refine go1 (fun _ => XS.icmpYes X36.here hx rfl (pc0 := 130) (pc' := 140) rfl (hb hby at_130) rfl (tlt (by decide : (2 : Int32) < (3 : Int32))).1 (by decide) (by decide)) ?_
    show Go p.tables e below T36 (mkF m 140 #[.val (.int p1), .val (.int p2), .val (.int (2 : Int32)), .val (.ref b1), .val (.ref b7), .val (.ref b13), .val (.ref b26), .unset, .unset, .unset, .unset] []) _
    refine go1 (fun _ => XS.iloadN X36.here hx rfl (hb hby at_140) rfl) ?_
    show Go p.tables e below T36 (mkF m 141 #[.val (.int p1), .val (.int p2), .val (.int (2 : Int32)), .val (.ref b1), .val (.ref b7), .val (.ref b13), .val (.ref b26), .unset, .unset, .unset, .unset] [(.int (2 : Int32))]) _
    refine go1 (fun _ => XS.ifYes X36.here hx rfl (pc0 := 141) (pc' := 148) rfl (hb hby at_141) rfl ((if0 _ _).trans (feq (by decide : ¬ ((2 : Int32) = (0 : Int32)))).2) (by decide) (by decide)) ?_
    show Go p.tables e below T36 (mkF m 148 #[.val (.int p1), .val (.int p2), .val (.int (2 : Int32)), .val (.ref b1), .val (.ref b7), .val (.ref b13), .val (.ref b26), .unset, .unset, .unset, .unset] []) _
    refine go1 (fun _ => XS.iloadN X36.here hx rfl (hb hby at_148) rfl) ?_
    show Go p.tables e below T36 (mkF m 149 #[.val (.int p1), .val (.int p2), .val (.int (2 : Int32)), .val (.ref b1), .val (.ref b7), .val (.ref b13), .val (.ref b26), .unset, .unset, .unset, .unset] [(.int (2 : Int32))]) _
    refine go1 (fun _ => XS.iconst X36.here hx rfl (hb hby at_149)) ?_
    show Go p.tables e below T36 (mkF m 150 #[.val (.int p1), .val (.int p2), .val (.int (2 : Int32)), .val (.ref b1), .val (.ref b7), .val (.ref b13), .val (.ref b26), .unset, .unset, .unset, .unset] [(.int (1 : Int32)), (.int (2 : Int32))]) _
    refine go1 (fun _ => XS.icmpYes X36.here hx rfl (pc0 := 150) (pc' := 157) rfl (hb hby at_150) rfl (feq (by decide : ¬ ((2 : Int32) = (1 : Int32)))).2 (by decide) (by decide)) ?_
    show Go p.tables e below T36 (mkF m 157 #[.val (.int p1), .val (.int p2), .val (.int (2 : Int32)), .val (.ref b1), .val (.ref b7), .val (.ref b13), .val (.ref b26), .unset, .unset, .unset, .unset] []) _
    refine go1 (fun _ => XS.iloadN X36.here hx rfl (hb hby at_157) rfl) ?_
    show Go p.tables e below T36 (mkF m 158 #[.val (.int p1), .val (.int p2), .val (.int (2 : Int32)), .val (.ref b1), .val (.ref b7), .val (.ref b13), .val (.ref b26), .unset, .unset, .unset, .unset] [(.int (2 : Int32))]) _
    refine go1 (fun _ => XS.iconst X36.here hx rfl (hb hby at_158)) ?_
    show Go p.tables e below T36 (mkF m 159 #[.val (.int p1), .val (.int p2), .val (.int (2 : Int32)), .val (.ref b1), .val (.ref b7), .val (.ref b13), .val (.ref b26), .unset, .unset, .unset, .unset] [(.int (2 : Int32)), (.int (2 : Int32))]) _
    refine go1 (fun _ => XS.icmpNo X36.here hx rfl (hb hby at_159) rfl (teq (by decide : (2 : Int32) = (2 : Int32))).2) ?_
    show Go p.tables e below T36 (mkF m 162 #[.val (.int p1), .val (.int p2), .val (.int (2 : Int32)), .val (.ref b1), .val (.ref b7), .val (.ref b13), .val (.ref b26), .unset, .unset, .unset, .unset] []) _
    refine go1 (fun _ => XS.aload X36.here hx rfl (hb hby at_162) rfl rfl) ?_
    show Go p.tables e below T36 (mkF m 164 #[.val (.int p1), .val (.int p2), .val (.int (2 : Int32)), .val (.ref b1), .val (.ref b7), .val (.ref b13), .val (.ref b26), .unset, .unset, .unset, .unset] [(.ref b7)]) _
    refine go1 (fun _ => XS.goto X36.here hx rfl (pc0 := 164) (pc' := 169) rfl (hb hby at_164) (by decide) (by decide)) ?_
    show Go p.tables e below T36 (mkF m 169 #[.val (.int p1), .val (.int p2), .val (.int (2 : Int32)), .val (.ref b1), .val (.ref b7), .val (.ref b13), .val (.ref b26), .unset, .unset, .unset, .unset] [(.ref b7)]) _
    refine go1 (fun _ => XS.astore X36.here hx rfl (hb hby at_169) rfl rfl (l' := #[.val (.int p1), .val (.int p2), .val (.int (2 : Int32)), .val (.ref b1), .val (.ref b7), .val (.ref b13), .val (.ref b26), .val (.ref b7), .unset, .unset, .unset]) rfl) ?_
    show Go p.tables e below T36 (mkF m 171 #[.val (.int p1), .val (.int p2), .val (.int (2 : Int32)), .val (.ref b1), .val (.ref b7), .val (.ref b13), .val (.ref b26), .val (.ref b7), .unset, .unset, .unset] []) _
    refine go1 (fun _ => XS.aload X36.here hx rfl (hb hby at_171) rfl rfl) ?_
    show Go p.tables e below T36 (mkF m 173 #[.val (.int p1), .val (.int p2), .val (.int (2 : Int32)), .val (.ref b1), .val (.ref b7), .val (.ref b13), .val (.ref b26), .val (.ref b7), .unset, .unset, .unset] [(.ref b26)]) _
    obtain ⟨cq37, kq37, q37a, q37b, q37c⟩ := isOf hZ rfl G36_0
    obtain ⟨_, _, ⟨T37, L37, k37, n37⟩, -, X37, ⟨Lc37, hQ37, l37, y37, z37⟩, st37⟩ := X36.virtualBack hx (y := (⟨"com/example/carmine/carmine/RedBlack$Links", "last", "()Lcom/example/carmine/carmine/Node;"⟩ : MethodName)) (z := (⟨"com/example/carmine/carmine/RedBlack$Links", "last", "()Lcom/example/carmine/carmine/Node;"⟩ : MethodName)) hown (mvT hZ (hw _ (List.mem_of_getElem? (i := 35) rfl))) (mvT hZ (hw _ (List.mem_of_getElem? (i := 36) rfl))) (notFace_of_selects (args := #[]) (mvT hZ (hw _ (List.mem_of_getElem? (i := 38) rfl)))) (mvT hZ (hw _ (List.mem_of_getElem? (i := 38) rfl))) (mvT hZ (hw _ (List.mem_of_getElem? (i := 37) rfl))) (by decide) (backOf (W := 0) (rm6 l Z a0 hw [] b26 (.ref b7) T36.heap n0 (Nat.le_trans (Nat.le_trans (Nat.le_trans (Nat.le_trans (Nat.le_trans (Nat.le_trans (Nat.le_trans (Nat.le_trans (Nat.le_trans (Nat.le_trans (Nat.le_trans (Nat.le_trans (Nat.le_trans (Nat.le_trans (Nat.le_trans (Nat.le_trans (Nat.le_trans Z0 E1.1) K2.1) K4.1) K6.1) E7.1) K8.1) K10.1) K12.1) E13.1) K14.1) K16.1) (Keep.of_wr W19).1) (Keep.of_wr W22).1) (Keep.of_wr W25).1) E26.1) K35.1) K36.1) G36_3 (by first | assumption | decide | rfl)) hZ (hw _ (List.mem_of_getElem? (i := 39) rfl)) (hw _ (List.mem_of_getElem? (i := 30) rfl)) (by decide) (by decide)) q37a q37c (g := (mkF m 173 #[.val (.int p1), .val (.int p2), .val (.int (2 : Int32)), .val (.ref b1), .val (.ref b7), .val (.ref b13), .val (.ref b26), .val (.ref b7), .unset, .unset, .unset] [(.ref b26)])) rfl (by rw [hml]; rfl) (Steps.refl _) (argsL := []) (rest := []) (lenOf pd0_4 rfl) rfl (by show 2 * 0 + _ ≤ _; exact Nat.le_of_eq rfl) (hb hby at_173) (fun _ _ => ⟨rfl, rfl, (by decide : 9 + 0 ≤ _), (by decide : 23 + 0 ≤ _)⟩)
    dsimp only [Pt.U, Pt.locs, Pt.cells, Pt.slots] at X37 l37 y37 z37 st37 hQ37
    subst l37 y37 z37
    obtain ⟨rfl, N37q, e37⟩ := hQ37
    have N37 := Fr.app N36 N37q
    refine goT st37 ?_
    show Go p.tables e below T37 (mkF m 176 #[.val (.int p1), .val (.int p2), .val (.int (2 : Int32)), .val (.ref b1), .val (.ref b7), .val (.ref b13), .val (.ref b26), .val (.ref b7), .unset, .unset, .unset] [(.ref b7)]) _
    refine go1 (fun _ => XS.aload X37.here hx rfl (hb hby at_176) rfl rfl) ?_
    show Go p.tables e below T37 (mkF m 178 #[.val (.int p1), .val (.int p2), .val (.int (2 : Int32)), .val (.ref b1), .val (.ref b7), .val (.ref b13), .val (.ref b26), .val (.ref b7), .unset, .unset, .unset] [(.ref b7), (.ref b7)]) _
    refine go1 (fun _ => Jvm.RoadKit.acmp (g := (mkF m 178 #[.val (.int p1), .val (.int p2), .val (.int (2 : Int32)), .val (.ref b1), .val (.ref b7), .val (.ref b13), .val (.ref b26), .val (.ref b7), .unset, .unset, .unset] [(.ref b7), (.ref b7)])) X37 hx rfl rfl rfl (pc0 := 178) (pc' := 181) (same := true) rfl (hb hby at_178) rfl (decide_eq_true rfl) (by decide) (by decide)) ?_
    show Go p.tables e below T37 (mkF m 181 #[.val (.int p1), .val (.int p2), .val (.int (2 : Int32)), .val (.ref b1), .val (.ref b7), .val (.ref b13), .val (.ref b26), .val (.ref b7), .unset, .unset, .unset] []) _
    refine go1 (fun _ => XS.aload X37.here hx rfl (hb hby at_181) rfl rfl) ?_
    show Go p.tables e below T37 (mkF m 183 #[.val (.int p1), .val (.int p2), .val (.int (2 : Int32)), .val (.ref b1), .val (.ref b7), .val (.ref b13), .val (.ref b26), .val (.ref b7), .unset, .unset, .unset] [(.ref b26)]) _
    obtain ⟨cq38, kq38, q38a, q38b, q38c⟩ := isOf hZ e37 G36_0
    obtain ⟨_, _, ⟨T38, L38, k38, n38⟩, -, X38, ⟨Lc38, hQ38, l38, y38, z38⟩, st38⟩ := X37.virtualBack hx (y := (⟨"com/example/carmine/carmine/RedBlack$Links", "size", "()I"⟩ : MethodName)) (z := (⟨"com/example/carmine/carmine/RedBlack$Links", "size", "()I"⟩ : MethodName)) hown (mvT hZ (hw _ (List.mem_of_getElem? (i := 42) rfl))) (mvT hZ (hw _ (List.mem_of_getElem? (i := 43) rfl))) (notFace_of_selects (args := #[]) (mvT hZ (hw _ (List.mem_of_getElem? (i := 45) rfl)))) (mvT hZ (hw _ (List.mem_of_getElem? (i := 45) rfl))) (mvT hZ (hw _ (List.mem_of_getElem? (i := 44) rfl))) (by decide) (backOf (W := 0) (rm7 l Z a0 hw [] b26 (2 : Int32) T36.heap n0 (Nat.le_trans (Nat.le_trans (Nat.le_trans (Nat.le_trans (Nat.le_trans (Nat.le_trans (Nat.le_trans (Nat.le_trans (Nat.le_trans (Nat.le_trans (Nat.le_trans (Nat.le_trans (Nat.le_trans (Nat.le_trans (Nat.le_trans (Nat.le_trans (Nat.le_trans Z0 E1.1) K2.1) K4.1) K6.1) E7.1) K8.1) K10.1) K12.1) E13.1) K14.1) K16.1) (Keep.of_wr W19).1) (Keep.of_wr W22).1) (Keep.of_wr W25).1) E26.1) K35.1) K36.1) G36_4) hZ (hw _ (List.mem_of_getElem? (i := 46) rfl)) (hw _ (List.mem_of_getElem? (i := 30) rfl)) (by decide) (by decide)) q38a q38c (g := (mkF m 183 #[.val (.int p1), .val (.int p2), .val (.int (2 : Int32)), .val (.ref b1), .val (.ref b7), .val (.ref b13), .val (.ref b26), .val (.ref b7), .unset, .unset, .unset] [(.ref b26)])) rfl (by rw [hml]; rfl) (Steps.refl _) (argsL := []) (rest := []) (lenOf pd0_5 rfl) rfl (by show 2 * 0 + _ ≤ _; exact Nat.le_of_eq rfl) (hb hby at_183) (fun _ _ => ⟨rfl, e37, (by decide : 9 + 0 ≤ _), (by decide : 23 + 0 ≤ _)⟩)
    dsimp only [Pt.U, Pt.locs, Pt.cells, Pt.slots] at X38 l38 y38 z38 st38 hQ38
    subst l38 y38 z38
    obtain ⟨rfl, N38q, e38⟩ := hQ38
    have N38 := Fr.app N37 N38q
    refine goT st38 ?_
    show Go p.tables e below T38 (mkF m 186 #[.val (.int p1), .val (.int p2), .val (.int (2 : Int32)), .val (.ref b1), .val (.ref b7), .val (.ref b13), .val (.ref b26), .val (.ref b7), .unset, .unset, .unset] [(.int (2 : Int32))]) _
    refine go1 (fun _ => XS.iloadN X38.here hx rfl (hb hby at_186) rfl) ?_
    show Go p.tables e below T38 (mkF m 187 #[.val (.int p1), .val (.int p2), .val (.int (2 : Int32)), .val (.ref b1), .val (.ref b7), .val (.ref b13), .val (.ref b26), .val (.ref b7), .unset, .unset, .unset] [(.int (2 : Int32)), (.int (2 : Int32))]) _
    refine go1 (fun _ => XS.icmpNo X38.here hx rfl (hb hby at_187) rfl (teq (by decide : (2 : Int32) = (2 : Int32))).2) ?_
    show Go p.tables e below T38 (mkF m 190 #[.val (.int p1), .val (.int p2), .val (.int (2 : Int32)), .val (.ref b1), .val (.ref b7), .val (.ref b13), .val (.ref b26), .val (.ref b7), .unset, .unset, .unset] []) _
    refine go1 (fun _ => XS.iconst X38.here hx rfl (hb hby at_190)) ?_
    show Go p.tables e below T38 (mkF m 191 #[.val (.int p1), .val (.int p2), .val (.int (2 : Int32)), .val (.ref b1), .val (.ref b7), .val (.ref b13), .val (.ref b26), .val (.ref b7), .unset, .unset, .unset] [(.int (1 : Int32))]) _
    refine go1 (fun _ => XS.goto X38.here hx rfl (pc0 := 191) (pc' := 195) rfl (hb hby at_191) (by decide) (by decide)) ?_
    show Go p.tables e below T38 (mkF m 195 #[.val (.int p1), .val (.int p2), .val (.int (2 : Int32)), .val (.ref b1), .val (.ref b7), .val (.ref b13), .val (.ref b26), .val (.ref b7), .unset, .unset, .unset] [(.int (1 : Int32))]) _
    refine go1 (fun _ => XS.istore X38.here hx rfl (hb hby at_195) rfl (l' := #[.val (.int p1), .val (.int p2), .val (.int (2 : Int32)), .val (.ref b1), .val (.ref b7), .val (.ref b13), .val (.ref b26), .val (.ref b7), .val (.int (1 : Int32)), .unset, .unset]) rfl) ?_
    show Go p.tables e below T38 (mkF m 197 #[.val (.int p1), .val (.int p2), .val (.int (2 : Int32)), .val (.ref b1), .val (.ref b7), .val (.ref b13), .val (.ref b26), .val (.ref b7), .val (.int (1 : Int32)), .unset, .unset] []) _
    refine go1 (fun _ => XS.iloadN X38.here hx rfl (hb hby at_197) rfl) ?_
    show Go p.tables e below T38 (mkF m 198 #[.val (.int p1), .val (.int p2), .val (.int (2 : Int32)), .val (.ref b1), .val (.ref b7), .val (.ref b13), .val (.ref b26), .val (.ref b7), .val (.int (1 : Int32)), .unset, .unset] [(.int (2 : Int32))]) _
    refine go1 (fun _ => XS.iconst X38.here hx rfl (hb hby at_198)) ?_
    show Go p.tables e below T38 (mkF m 199 #[.val (.int p1), .val (.int p2), .val (.int (2 : Int32)), .val (.ref b1), .val (.ref b7), .val (.ref b13), .val (.ref b26), .val (.ref b7), .val (.int (1 : Int32)), .unset, .unset] [(.int (2 : Int32)), (.int (2 : Int32))]) _
    refine go1 (fun _ => XS.icmpNo X38.here hx rfl (hb hby at_199) rfl (flt (by decide : ¬ ((2 : Int32) < (2 : Int32)))).1) ?_
    show Go p.tables e below T38 (mkF m 202 #[.val (.int p1), .val (.int p2), .val (.int (2 : Int32)), .val (.ref b1), .val (.ref b7), .val (.ref b13), .val (.ref b26), .val (.ref b7), .val (.int (1 : Int32)), .unset, .unset] []) _
    refine go1 (fun _ => XS.iload X38.here hx rfl (hb hby at_202) rfl) ?_
    show Go p.tables e below T38 (mkF m 204 #[.val (.int p1), .val (.int p2), .val (.int (2 : Int32)), .val (.ref b1), .val (.ref b7), .val (.ref b13), .val (.ref b26), .val (.ref b7), .val (.int (1 : Int32)), .unset, .unset] [(.int (1 : Int32))]) _
    refine go1 (fun _ => XS.ifNo X38.here hx rfl (hb hby at_204) rfl ((if0 _ _).trans (feq (by decide : ¬ ((1 : Int32) = (0 : Int32)))).1)) ?_
    show Go p.tables e below T38 (mkF m 207 #[.val (.int p1), .val (.int p2), .val (.int (2 : Int32)), .val (.ref b1), .val (.ref b7), .val (.ref b13), .val (.ref b26), .val (.ref b7), .val (.int (1 : Int32)), .unset, .unset] []) _
    refine go1 (fun _ => XS.aloadN X38.here hx rfl (hb hby at_207) rfl rfl) ?_
    show Go p.tables e below T38 (mkF m 208 #[.val (.int p1), .val (.int p2), .val (.int (2 : Int32)), .val (.ref b1), .val (.ref b7), .val (.ref b13), .val (.ref b26), .val (.ref b7), .val (.int (1 : Int32)), .unset, .unset] [(.ref b1)]) _
    obtain ⟨T39, X39, e39, st39⟩ := getF X38 hx hZ hown (host := "") (Or.inl (hw _ (List.mem_of_getElem? (i := 26) rfl))) Via.refl e38 G36_7 (g := (mkF m 208 #[.val (.int p1), .val (.int p2), .val (.int (2 : Int32)), .val (.ref b1), .val (.ref b7), .val (.ref b13), .val (.ref b26), .val (.ref b7), .val (.int (1 : Int32)), .unset, .unset] [(.ref b1)])) rfl rfl (hb hby at_208)
    refine go1 st39 ?_
    show Go p.tables e below T39 (mkF m 211 #[.val (.int p1), .val (.int p2), .val (.int (2 : Int32)), .val (.ref b1), .val (.ref b7), .val (.ref b13), .val (.ref b26), .val (.ref b7), .val (.int (1 : Int32)), .unset, .unset] [(.ref b7)]) _
    refine go1 (fun _ => XS.aload X39.here hx rfl (hb hby at_211) rfl rfl) ?_
    show Go p.tables e below T39 (mkF m 213 #[.val (.int p1), .val (.int p2), .val (.int (2 : Int32)), .val (.ref b1), .val (.ref b7), .val (.ref b13), .val (.ref b26), .val (.ref b7), .val (.int (1 : Int32)), .unset, .unset] [(.ref b7), (.ref b7)]) _
    refine go1 (fun _ => Jvm.RoadKit.acmp (g := (mkF m 213 #[.val (.int p1), .val (.int p2), .val (.int (2 : Int32)), .val (.ref b1), .val (.ref b7), .val (.ref b13), .val (.ref b26), .val (.ref b7), .val (.int (1 : Int32)), .unset, .unset] [(.ref b7), (.ref b7)])) X39 hx rfl rfl rfl (pc0 := 213) (pc' := 216) (same := true) rfl (hb hby at_213) rfl (decide_eq_true rfl) (by decide) (by decide)) ?_
    show Go p.tables e below T39 (mkF m 216 #[.val (.int p1), .val (.int p2), .val (.int (2 : Int32)), .val (.ref b1), .val (.ref b7), .val (.ref b13), .val (.ref b26), .val (.ref b7), .val (.int (1 : Int32)), .unset, .unset] []) _
    refine go1 (fun _ => XS.iconst X39.here hx rfl (hb hby at_216)) ?_
    show Go p.tables e below T39 (mkF m 217 #[.val (.int p1), .val (.int p2), .val (.int (2 : Int32)), .val (.ref b1), .val (.ref b7), .val (.ref b13), .val (.ref b26), .val (.ref b7), .val (.int (1 : Int32)), .unset, .unset] [(.int (1 : Int32))]) _
    refine go1 (fun _ => XS.goto X39.here hx rfl (pc0 := 217) (pc' := 221) rfl (hb hby at_217) (by decide) (by decide)) ?_
    show Go p.tables e below T39 (mkF m 221 #[.val (.int p1), .val (.int p2), .val (.int (2 : Int32)), .val (.ref b1), .val (.ref b7), .val (.ref b13), .val (.ref b26), .val (.ref b7), .val (.int (1 : Int32)), .unset, .unset] [(.int (1 : Int32))]) _
    refine go1 (fun _ => XS.istore X39.here hx rfl (hb hby at_221) rfl (l' := #[.val (.int p1), .val (.int p2), .val (.int (2 : Int32)), .val (.ref b1), .val (.ref b7), .val (.ref b13), .val (.ref b26), .val (.ref b7), .val (.int (1 : Int32)), .unset, .unset]) rfl) ?_
    show Go p.tables e below T39 (mkF m 223 #[.val (.int p1), .val (.int p2), .val (.int (2 : Int32)), .val (.ref b1), .val (.ref b7), .val (.ref b13), .val (.ref b26), .val (.ref b7), .val (.int (1 : Int32)), .unset, .unset] []) _
    refine go1 (fun _ => XS.iloadN X39.here hx rfl (hb hby at_223) rfl) ?_
    show Go p.tables e below T39 (mkF m 224 #[.val (.int p1), .val (.int p2), .val (.int (2 : Int32)), .val (.ref b1), .val (.ref b7), .val (.ref b13), .val (.ref b26), .val (.ref b7), .val (.int (1 : Int32)), .unset, .unset] [(.int (2 : Int32))]) _
    refine go1 (fun _ => XS.iconst X39.here hx rfl (hb hby at_224)) ?_
    show Go p.tables e below T39 (mkF m 225 #[.val (.int p1), .val (.int p2), .val (.int (2 : Int32)), .val (.ref b1), .val (.ref b7), .val (.ref b13), .val (.ref b26), .val (.ref b7), .val (.int (1 : Int32)), .unset, .unset] [(.int (3 : Int32)), (.int (2 : Int32))]) _
    refine go1 (fun _ => XS.icmpYes X39.here hx rfl (pc0 := 225) (pc' := 250) rfl (hb hby at_225) rfl (tlt (by decide : (2 : Int32) < (3 : Int32))).1 (by decide) (by decide)) ?_
    show Go p.tables e below T39 (mkF m 250 #[.val (.int p1), .val (.int p2), .val (.int (2 : Int32)), .val (.ref b1), .val (.ref b7), .val (.ref b13), .val (.ref b26), .val (.ref b7), .val (.int (1 : Int32)), .unset, .unset] []) _
    refine go1 (fun _ => XS.aload X39.here hx rfl (hb hby at_250) rfl rfl) ?_
    show Go p.tables e below T39 (mkF m 252 #[.val (.int p1), .val (.int p2), .val (.int (2 : Int32)), .val (.ref b1), .val (.ref b7), .val (.ref b13), .val (.ref b26), .val (.ref b7), .val (.int (1 : Int32)), .unset, .unset] [(.ref b26)]) _
    obtain ⟨_, _, ⟨T40, L40, k40, n40⟩, -, X40, ⟨Lc40, hQ40, l40, y40, z40⟩, st40⟩ := Jvm.LawKit.callS X39 hx (y := (⟨"com/example/carmine/carmine/RedBlack", "build", "(Lcom/example/carmine/carmine/RedBlack$Links;)Lcom/example/carmine/carmine/Node;"⟩ : MethodName)) hown (mvT hZ (hw _ (List.mem_of_getElem? (i := 49) rfl))) (mvT hZ (hw _ (List.mem_of_getElem? (i := 50) rfl))) (mvT hZ (hw _ (List.mem_of_getElem? (i := 51) rfl))) (mvT hZ (hw _ (List.mem_of_getElem? (i := 52) rfl))) (by decide) (backOf (W := 0) (rm8_2 l Z a0 hw [] b26 b1 b7 u21 .null (1 : Int32) .null (1 : Int32) T36.heap n0 (Nat.le_trans (Nat.le_trans (Nat.le_trans (Nat.le_trans (Nat.le_trans (Nat.le_trans (Nat.le_trans (Nat.le_trans (Nat.le_trans (Nat.le_trans (Nat.le_trans (Nat.le_trans (Nat.le_trans (Nat.le_trans (Nat.le_trans (Nat.le_trans (Nat.le_trans Z0 E1.1) K2.1) K4.1) K6.1) E7.1) K8.1) K10.1) K12.1) E13.1) K14.1) K16.1) (Keep.of_wr W19).1) (Keep.of_wr W22).1) (Keep.of_wr W25).1) E26.1) K35.1) K36.1) G36_2 G36_4 G36_5 G36_6 G36_7 G36_1 g_b1 (((((((((G12_1.ext E13).keep K14 nin0).keep K16 (ninS (Nat.ne_of_lt (Nat.lt_of_lt_of_le G12_3.lt (Nat.le_of_eq g13.symm))) nin0)).other W19 (Or.inl (Ne.symm (Nat.ne_of_lt (Nat.lt_of_lt_of_le G6_3.lt (Nat.le_of_eq g7.symm)))))).other W22 (Or.inr (slot_ne (Or.inl (hw _ (List.mem_of_getElem? (i := 109) rfl))) (Or.inl (hw _ (List.mem_of_getElem? (i := 27) rfl))) (by decide) (t := (.object "com/example/carmine/carmine/Node")) (t' := (.object "com/example/carmine/carmine/Node")) (by decide) (by decide)))).other W25 (Or.inl (Nat.ne_of_lt (Nat.lt_of_lt_of_le G12_3.lt (Nat.le_of_eq g13.symm))))).ext E26).keep K35 (ninS (Nat.ne_of_lt (Nat.lt_of_lt_of_le (Fw22.other W25 (Or.inl (Nat.ne_of_lt (Nat.lt_of_lt_of_le G12_3.lt (Nat.le_of_eq g13.symm))))).lt (Nat.le_of_eq g26.symm))) nin0)).keep K36 (ninS (Nat.ne_of_lt (Nat.lt_of_lt_of_le (Fw22.other W25 (Or.inl (Nat.ne_of_lt (Nat.lt_of_lt_of_le G12_3.lt (Nat.le_of_eq g13.symm))))).lt (Nat.le_of_eq g26.symm))) (ninS (Ne.symm (Nat.ne_of_lt (Nat.lt_of_lt_of_le G6_3.lt (Nat.le_of_eq g7.symm)))) nin0))) (((((((((G12_3.ext E13).keep K14 nin0).keep K16 (ninS (Nat.ne_of_lt (Nat.lt_of_lt_of_le G12_3.lt (Nat.le_of_eq g13.symm))) nin0)).other W19 (Or.inl (Ne.symm (Nat.ne_of_lt (Nat.lt_of_lt_of_le G6_3.lt (Nat.le_of_eq g7.symm)))))).other W22 (Or.inr (slot_ne (Or.inl (hw _ (List.mem_of_getElem? (i := 21) rfl))) (Or.inl (hw _ (List.mem_of_getElem? (i := 27) rfl))) (by decide) (t := .int) (t' := (.object "com/example/carmine/carmine/Node")) (by decide) (by decide)))).other W25 (Or.inl (Nat.ne_of_lt (Nat.lt_of_lt_of_le G12_3.lt (Nat.le_of_eq g13.symm))))).ext E26).keep K35 (ninS (Nat.ne_of_lt (Nat.lt_of_lt_of_le (Fw22.other W25 (Or.inl (Nat.ne_of_lt (Nat.lt_of_lt_of_le G12_3.lt (Nat.le_of_eq g13.symm))))).lt (Nat.le_of_eq g26.symm))) nin0)).keep K36 (ninS (Nat.ne_of_lt (Nat.lt_of_lt_of_le (Fw22.other W25 (Or.inl (Nat.ne_of_lt (Nat.lt_of_lt_of_le G12_3.lt (Nat.le_of_eq g13.symm))))).lt (Nat.le_of_eq g26.symm))) (ninS (Ne.symm (Nat.ne_of_lt (Nat.lt_of_lt_of_le G6_3.lt (Nat.le_of_eq g7.symm)))) nin0))) ((((Fw22.other W25 (Or.inl (Nat.ne_of_lt (Nat.lt_of_lt_of_le G12_3.lt (Nat.le_of_eq g13.symm))))).ext E26).keep K35 (ninS (Nat.ne_of_lt (Nat.lt_of_lt_of_le (Fw22.other W25 (Or.inl (Nat.ne_of_lt (Nat.lt_of_lt_of_le G12_3.lt (Nat.le_of_eq g13.symm))))).lt (Nat.le_of_eq g26.symm))) nin0)).keep K36 (ninS (Nat.ne_of_lt (Nat.lt_of_lt_of_le (Fw22.other W25 (Or.inl (Nat.ne_of_lt (Nat.lt_of_lt_of_le G12_3.lt (Nat.le_of_eq g13.symm))))).lt (Nat.le_of_eq g26.symm))) (ninS (Ne.symm (Nat.ne_of_lt (Nat.lt_of_lt_of_le G6_3.lt (Nat.le_of_eq g7.symm)))) nin0))) (((((((((G12_0.ext E13).keep K14).keep K16).wr W19).wr W22).wr W25).ext E26).keep K35).keep K36) g_b7 G20_0 (Nat.ne_of_lt (Nat.lt_of_lt_of_le G6_3.lt (Nat.le_of_eq g7.symm))) G36_0) hZ (hw _ (List.mem_of_getElem? (i := 52) rfl)) (hw _ (List.mem_of_getElem? (i := 51) rfl)) (by decide) (by decide)) (g := (mkF m 252 #[.val (.int p1), .val (.int p2), .val (.int (2 : Int32)), .val (.ref b1), .val (.ref b7), .val (.ref b13), .val (.ref b26), .val (.ref b7), .val (.int (1 : Int32)), .unset, .unset] [(.ref b26)])) rfl (by rw [hml]; rfl) (argsL := [(.ref b26)]) (rest := []) (lenOf pd0_6 rfl) rfl (by show 2 * 0 + _ ≤ _; exact Nat.le_of_eq rfl) (hb hby at_252) (fun _ _ => ⟨rfl, e39, (by decide : 9 + 1 ≤ _), (by decide : 23 + 6 ≤ _)⟩)
    dsimp only [Pt.U, Pt.locs, Pt.cells, Pt.slots] at X40 l40 y40 z40 st40 hQ40
    subst l40 y40 z40
    obtain ⟨rfl, N40q, K40, G40_0, G40_1, G40_2⟩ := hQ40
    have N40 := Fr.app N38 N40q
    refine go1 st40 ?_
    show Go p.tables e below T40 (mkF m 255 #[.val (.int p1), .val (.int p2), .val (.int (2 : Int32)), .val (.ref b1), .val (.ref b7), .val (.ref b13), .val (.ref b26), .val (.ref b7), .val (.int (1 : Int32)), .unset, .unset] [(.ref b1)]) _
    refine go1 (fun _ => XS.astore X40.here hx rfl (hb hby at_255) rfl rfl (l' := #[.val (.int p1), .val (.int p2), .val (.int (2 : Int32)), .val (.ref b1), .val (.ref b7), .val (.ref b13), .val (.ref b26), .val (.ref b7), .val (.int (1 : Int32)), .val (.ref b1), .unset]) rfl) ?_
    show Go p.tables e below T40 (mkF m 257 #[.val (.int p1), .val (.int p2), .val (.int (2 : Int32)), .val (.ref b1), .val (.ref b7), .val (.ref b13), .val (.ref b26), .val (.ref b7), .val (.int (1 : Int32)), .val (.ref b1), .unset] []) _
    refine go1 (fun _ => XS.iloadN X40.here hx rfl (hb hby at_257) rfl) ?_
    show Go p.tables e below T40 (mkF m 258 #[.val (.int p1), .val (.int p2), .val (.int (2 : Int32)), .val (.ref b1), .val (.ref b7), .val (.ref b13), .val (.ref b26), .val (.ref b7), .val (.int (1 : Int32)), .val (.ref b1), .unset] [(.int (2 : Int32))]) _
    refine go1 (fun _ => XS.ifYes X40.here hx rfl (pc0 := 258) (pc' := 276) rfl (hb hby at_258) rfl ((if0 _ _).trans (feq (by decide : ¬ ((2 : Int32) = (0 : Int32)))).2) (by decide) (by decide)) ?_
    show Go p.tables e below T40 (mkF m 276 #[.val (.int p1), .val (.int p2), .val (.int (2 : Int32)), .val (.ref b1), .val (.ref b7), .val (.ref b13), .val (.ref b26), .val (.ref b7), .val (.int (1 : Int32)), .val (.ref b1), .unset] []) _
    refine go1 (fun _ => XS.iloadN X40.here hx rfl (hb hby at_276) rfl) ?_
    show Go p.tables e below T40 (mkF m 277 #[.val (.int p1), .val (.int p2), .val (.int (2 : Int32)), .val (.ref b1), .val (.ref b7), .val (.ref b13), .val (.ref b26), .val (.ref b7), .val (.int (1 : Int32)), .val (.ref b1), .unset] [(.int (2 : Int32))]) _
    refine go1 (fun _ => XS.iconst X40.here hx rfl (hb hby at_277)) ?_
    show Go p.tables e below T40 (mkF m 278 #[.val (.int p1), .val (.int p2), .val (.int (2 : Int32)), .val (.ref b1), .val (.ref b7), .val (.ref b13), .val (.ref b26), .val (.ref b7), .val (.int (1 : Int32)), .val (.ref b1), .unset] [(.int (1 : Int32)), (.int (2 : Int32))]) _
    refine go1 (fun _ => XS.icmpYes X40.here hx rfl (pc0 := 278) (pc' := 297) rfl (hb hby at_278) rfl (feq (by decide : ¬ ((2 : Int32) = (1 : Int32)))).2 (by decide) (by decide)) ?_
    show Go p.tables e below T40 (mkF m 297 #[.val (.int p1), .val (.int p2), .val (.int (2 : Int32)), .val (.ref b1), .val (.ref b7), .val (.ref b13), .val (.ref b26), .val (.ref b7), .val (.int (1 : Int32)), .val (.ref b1), .unset] []) _
    refine go1 (fun _ => XS.iloadN X40.here hx rfl (hb hby at_297) rfl) ?_
    show Go p.tables e below T40 (mkF m 298 #[.val (.int p1), .val (.int p2), .val (.int (2 : Int32)), .val (.ref b1), .val (.ref b7), .val (.ref b13), .val (.ref b26), .val (.ref b7), .val (.int (1 : Int32)), .val (.ref b1), .unset] [(.int (2 : Int32))]) _
    refine go1 (fun _ => XS.iconst X40.here hx rfl (hb hby at_298)) ?_
    show Go p.tables e below T40 (mkF m 299 #[.val (.int p1), .val (.int p2), .val (.int (2 : Int32)), .val (.ref b1), .val (.ref b7), .val (.ref b13), .val (.ref b26), .val (.ref b7), .val (.int (1 : Int32)), .val (.ref b1), .unset] [(.int (2 : Int32)), (.int (2 : Int32))]) _
    refine go1 (fun _ => XS.icmpNo X40.here hx rfl (hb hby at_299) rfl (teq (by decide : (2 : Int32) = (2 : Int32))).2) ?_
    show Go p.tables e below T40 (mkF m 302 #[.val (.int p1), .val (.int p2), .val (.int (2 : Int32)), .val (.ref b1), .val (.ref b7), .val (.ref b13), .val (.ref b26), .val (.ref b7), .val (.int (1 : Int32)), .val (.ref b1), .unset] []) _
    refine go1 (fun _ => XS.aload X40.here hx rfl (hb hby at_302) rfl rfl) ?_
    show Go p.tables e below T40 (mkF m 304 #[.val (.int p1), .val (.int p2), .val (.int (2 : Int32)), .val (.ref b1), .val (.ref b7), .val (.ref b13), .val (.ref b26), .val (.ref b7), .val (.int (1 : Int32)), .val (.ref b1), .unset] [(.ref b1)]) _
    refine go1 (fun _ => XS.aloadN X40.here hx rfl (hb hby at_304) rfl rfl) ?_
    show Go p.tables e below T40 (mkF m 305 #[.val (.int p1), .val (.int p2), .val (.int (2 : Int32)), .val (.ref b1), .val (.ref b7), .val (.ref b13), .val (.ref b26), .val (.ref b7), .val (.int (1 : Int32)), .val (.ref b1), .unset] [(.ref b1), (.ref b1)]) _
    refine go1 (fun _ => Jvm.RoadKit.acmp (g := (mkF m 305 #[.val (.int p1), .val (.int p2), .val (.int (2 : Int32)), .val (.ref b1), .val (.ref b7), .val (.ref b13), .val (.ref b26), .val (.ref b7), .val (.int (1 : Int32)), .val (.ref b1), .unset] [(.ref b1), (.ref b1)])) X40 hx rfl rfl rfl (pc0 := 305) (pc' := 308) (same := true) rfl (hb hby at_305) rfl (decide_eq_true rfl) (by decide) (by decide)) ?_
    show Go p.tables e below T40 (mkF m 308 #[.val (.int p1), .val (.int p2), .val (.int (2 : Int32)), .val (.ref b1), .val (.ref b7), .val (.ref b13), .val (.ref b26), .val (.ref b7), .val (.int (1 : Int32)), .val (.ref b1), .unset] []) _
    refine go1 (fun _ => XS.aloadN X40.here hx rfl (hb hby at_308) rfl rfl) ?_
    show Go p.tables e below T40 (mkF m 309 #[.val (.int p1), .val (.int p2), .val (.int (2 : Int32)), .val (.ref b1), .val (.ref b7), .val (.ref b13), .val (.ref b26), .val (.ref b7), .val (.int (1 : Int32)), .val (.ref b1), .unset] [(.ref b1)]) _
    obtain ⟨T41, X41, e41, st41⟩ := getF X40 hx hZ hown (host := "") (Or.inl (hw _ (List.mem_of_getElem? (i := 111) rfl))) Via.refl rfl G40_1 (g := (mkF m 309 #[.val (.int p1), .val (.int p2), .val (.int (2 : Int32)), .val (.ref b1), .val (.ref b7), .val (.ref b13), .val (.ref b26), .val (.ref b7), .val (.int (1 : Int32)), .val (.ref b1), .unset] [(.ref b1)])) rfl rfl (hb hby at_309)
    refine go1 st41 ?_
    show Go p.tables e below T41 (mkF m 312 #[.val (.int p1), .val (.int p2), .val (.int (2 : Int32)), .val (.ref b1), .val (.ref b7), .val (.ref b13), .val (.ref b26), .val (.ref b7), .val (.int (1 : Int32)), .val (.ref b1), .unset] [.null]) _
    refine go1 (fun _ => XS.ifnonnullNo X41.here hx rfl (hb hby at_312) rfl) ?_
    show Go p.tables e below T41 (mkF m 315 #[.val (.int p1), .val (.int p2), .val (.int (2 : Int32)), .val (.ref b1), .val (.ref b7), .val (.ref b13), .val (.ref b26), .val (.ref b7), .val (.int (1 : Int32)), .val (.ref b1), .unset] []) _
    refine go1 (fun _ => XS.aloadN X41.here hx rfl (hb hby at_315) rfl rfl) ?_
    show Go p.tables e below T41 (mkF m 316 #[.val (.int p1), .val (.int p2), .val (.int (2 : Int32)), .val (.ref b1), .val (.ref b7), .val (.ref b13), .val (.ref b26), .val (.ref b7), .val (.int (1 : Int32)), .val (.ref b1), .unset] [(.ref b1)]) _
    obtain ⟨T42, X42, e42, st42⟩ := getF X41 hx hZ hown (host := "") (Or.inl (hw _ (List.mem_of_getElem? (i := 26) rfl))) Via.refl e41 G40_2 (g := (mkF m 316 #[.val (.int p1), .val (.int p2), .val (.int (2 : Int32)), .val (.ref b1), .val (.ref b7), .val (.ref b13), .val (.ref b26), .val (.ref b7), .val (.int (1 : Int32)), .val (.ref b1), .unset] [(.ref b1)])) rfl rfl (hb hby at_316)
    refine go1 st42 ?_
    show Go p.tables e below T42 (mkF m 319 #[.val (.int p1), .val (.int p2), .val (.int (2 : Int32)), .val (.ref b1), .val (.ref b7), .val (.ref b13), .val (.ref b26), .val (.ref b7), .val (.int (1 : Int32)), .val (.ref b1), .unset] [(.ref b7)]) _
    refine go1 (fun _ => XS.aload X42.here hx rfl (hb hby at_319) rfl rfl) ?_
    show Go p.tables e below T42 (mkF m 321 #[.val (.int p1), .val (.int p2), .val (.int (2 : Int32)), .val (.ref b1), .val (.ref b7), .val (.ref b13), .val (.ref b26), .val (.ref b7), .val (.int (1 : Int32)), .val (.ref b1), .unset] [(.ref b7), (.ref b7)]) _
    refine go1 (fun _ => Jvm.RoadKit.acmp (g := (mkF m 321 #[.val (.int p1), .val (.int p2), .val (.int (2 : Int32)), .val (.ref b1), .val (.ref b7), .val (.ref b13), .val (.ref b26), .val (.ref b7), .val (.int (1 : Int32)), .val (.ref b1), .unset] [(.ref b7), (.ref b7)])) X42 hx rfl rfl rfl (pc0 := 321) (pc' := 324) (same := true) rfl (hb hby at_321) rfl (decide_eq_true rfl) (by decide) (by decide)) ?_
    show Go p.tables e below T42 (mkF m 324 #[.val (.int p1), .val (.int p2), .val (.int (2 : Int32)), .val (.ref b1), .val (.ref b7), .val (.ref b13), .val (.ref b26), .val (.ref b7), .val (.int (1 : Int32)), .val (.ref b1), .unset] []) _
    refine go1 (fun _ => XS.iconst X42.here hx rfl (hb hby at_324)) ?_
    show Go p.tables e below T42 (mkF m 325 #[.val (.int p1), .val (.int p2), .val (.int (2 : Int32)), .val (.ref b1), .val (.ref b7), .val (.ref b13), .val (.ref b26), .val (.ref b7), .val (.int (1 : Int32)), .val (.ref b1), .unset] [(.int (1 : Int32))]) _
    refine go1 (fun _ => XS.goto X42.here hx rfl (pc0 := 325) (pc' := 329) rfl (hb hby at_325) (by decide) (by decide)) ?_
    show Go p.tables e below T42 (mkF m 329 #[.val (.int p1), .val (.int p2), .val (.int (2 : Int32)), .val (.ref b1), .val (.ref b7), .val (.ref b13), .val (.ref b26), .val (.ref b7), .val (.int (1 : Int32)), .val (.ref b1), .unset] [(.int (1 : Int32))]) _
    refine go1 (fun _ => XS.istore X42.here hx rfl (hb hby at_329) rfl (l' := #[.val (.int p1), .val (.int p2), .val (.int (2 : Int32)), .val (.ref b1), .val (.ref b7), .val (.ref b13), .val (.ref b26), .val (.ref b7), .val (.int (1 : Int32)), .val (.ref b1), .val (.int (1 : Int32))]) rfl) ?_
    show Go p.tables e below T42 (mkF m 331 #[.val (.int p1), .val (.int p2), .val (.int (2 : Int32)), .val (.ref b1), .val (.ref b7), .val (.ref b13), .val (.ref b26), .val (.ref b7), .val (.int (1 : Int32)), .val (.ref b1), .val (.int (1 : Int32))] []) _
    refine go1 (fun _ => XS.goto X42.here hx rfl (pc0 := 331) (pc' := 367) rfl (hb hby at_331) (by decide) (by decide)) ?_
    show Go p.tables e below T42 (mkF m 367 #[.val (.int p1), .val (.int p2), .val (.int (2 : Int32)), .val (.ref b1), .val (.ref b7), .val (.ref b13), .val (.ref b26), .val (.ref b7), .val (.int (1 : Int32)), .val (.ref b1), .val (.int (1 : Int32))] []) _
    refine go1 (fun _ => XS.iload X42.here hx rfl (hb hby at_367) rfl) ?_
    show Go p.tables e below T42 (mkF m 369 #[.val (.int p1), .val (.int p2), .val (.int (2 : Int32)), .val (.ref b1), .val (.ref b7), .val (.ref b13), .val (.ref b26), .val (.ref b7), .val (.int (1 : Int32)), .val (.ref b1), .val (.int (1 : Int32))] [(.int (1 : Int32))]) _
    refine go1 (fun _ => XS.ifNo X42.here hx rfl (hb hby at_369) rfl ((if0 _ _).trans (feq (by decide : ¬ ((1 : Int32) = (0 : Int32)))).1)) ?_
    show Go p.tables e below T42 (mkF m 372 #[.val (.int p1), .val (.int p2), .val (.int (2 : Int32)), .val (.ref b1), .val (.ref b7), .val (.ref b13), .val (.ref b26), .val (.ref b7), .val (.int (1 : Int32)), .val (.ref b1), .val (.int (1 : Int32))] []) _
    refine go1 (fun _ => XS.iload X42.here hx rfl (hb hby at_372) rfl) ?_
    show Go p.tables e below T42 (mkF m 374 #[.val (.int p1), .val (.int p2), .val (.int (2 : Int32)), .val (.ref b1), .val (.ref b7), .val (.ref b13), .val (.ref b26), .val (.ref b7), .val (.int (1 : Int32)), .val (.ref b1), .val (.int (1 : Int32))] [(.int (1 : Int32))]) _
    refine go1 (fun _ => XS.ifNo X42.here hx rfl (hb hby at_374) rfl ((if0 _ _).trans (feq (by decide : ¬ ((1 : Int32) = (0 : Int32)))).1)) ?_
    show Go p.tables e below T42 (mkF m 377 #[.val (.int p1), .val (.int p2), .val (.int (2 : Int32)), .val (.ref b1), .val (.ref b7), .val (.ref b13), .val (.ref b26), .val (.ref b7), .val (.int (1 : Int32)), .val (.ref b1), .val (.int (1 : Int32))] []) _
    refine go1 (fun _ => XS.iconst X42.here hx rfl (hb hby at_377)) ?_
    show Go p.tables e below T42 (mkF m 378 #[.val (.int p1), .val (.int p2), .val (.int (2 : Int32)), .val (.ref b1), .val (.ref b7), .val (.ref b13), .val (.ref b26), .val (.ref b7), .val (.int (1 : Int32)), .val (.ref b1), .val (.int (1 : Int32))] [(.int (1 : Int32))]) _
    refine go1 (fun _ => XS.goto X42.here hx rfl (pc0 := 378) (pc' := 382) rfl (hb hby at_378) (by decide) (by decide)) ?_
    show Go p.tables e below T42 (mkF m 382 #[.val (.int p1), .val (.int p2), .val (.int (2 : Int32)), .val (.ref b1), .val (.ref b7), .val (.ref b13), .val (.ref b26), .val (.ref b7), .val (.int (1 : Int32)), .val (.ref b1), .val (.int (1 : Int32))] [(.int (1 : Int32))]) _
    refine goR X42 (BodyLoose.notSynchronized Bd) (v := (some (.int (1 : Int32)))) (fun h => by rw [Bd.returns] at h; cases h) (Q0 Z p1 p2 a_cache h0 n0) (fun fs hr => retN X42 hx (t := .boolean) Bd.returns (by simp) (hb hby at_382) hr) (by decide) (by decide) ?_
    show Q0 Z p1 p2 a_cache h0 n0 _ T42.heap _
    rw [e42]
    exact ⟨rfl, N40⟩
  · skip
    rw [hn]
    show Go p.tables e below T27 (mkF m 105 #[.val (.int p1), .val (.int p2), .val (.int (3 : Int32)), .val (.ref b1), .val (.ref b7), .val (.ref b13), .val (.ref b26), .unset, .unset, .unset, .unset] []) _
    refine go1 (fun _ => XS.iloadN X27.here hx rfl (hb hby at_105) rfl) ?_
    show Go p.tables e below T27 (mkF m 106 #[.val (.int p1), .val (.int p2), .val (.int (3 : Int32)), .val (.ref b1), .val (.ref b7), .val (.ref b13), .val (.ref b26), .unset, .unset, .unset, .unset] [(.int (3 : Int32))]) _
    refine go1 (fun _ => XS.iconst X27.here hx rfl (hb hby at_106)) ?_
    show Go p.tables e below T27 (mkF m 107 #[.val (.int p1), .val (.int p2), .val (.int (3 : Int32)), .val (.ref b1), .val (.ref b7), .val (.ref b13), .val (.ref b26), .unset, .unset, .unset, .unset] [(.int (1 : Int32)), (.int (3 : Int32))]) _
    refine go1 (fun _ => XS.icmpNo X27.here hx rfl (hb hby at_107) rfl (flt (by decide : ¬ ((3 : Int32) < (1 : Int32)))).1) ?_
    show Go p.tables e below T27 (mkF m 110 #[.val (.int p1), .val (.int p2), .val (.int (3 : Int32)), .val (.ref b1), .val (.ref b7), .val (.ref b13), .val (.ref b26), .unset, .unset, .unset, .unset] []) _
    refine go1 (fun _ => XS.aload X27.here hx rfl (hb hby at_110) rfl rfl) ?_
    show Go p.tables e below T27 (mkF m 112 #[.val (.int p1), .val (.int p2), .val (.int (3 : Int32)), .val (.ref b1), .val (.ref b7), .val (.ref b13), .val (.ref b26), .unset, .unset, .unset, .unset] [(.ref b26)]) _
    refine go1 (fun _ => XS.aloadN X27.here hx rfl (hb hby at_112) rfl rfl) ?_
    show Go p.tables e below T27 (mkF m 113 #[.val (.int p1), .val (.int p2), .val (.int (3 : Int32)), .val (.ref b1), .val (.ref b7), .val (.ref b13), .val (.ref b26), .unset, .unset, .unset, .unset] [(.ref b1), (.ref b26)]) _
    obtain ⟨cq43, kq43, q43a, q43b, q43c⟩ := isOf hZ e27 A26
    obtain ⟨_, _, ⟨T43, L43, k43, n43⟩, -, X43, ⟨Lc43, hQ43, l43, y43, z43⟩, st43⟩ := X27.virtualBack hx (y := (⟨"com/example/carmine/carmine/RedBlack$Links", "add", "(Lcom/example/carmine/carmine/Node;)V"⟩ : MethodName)) (z := (⟨"com/example/carmine/carmine/RedBlack$Links", "add", "(Lcom/example/carmine/carmine/Node;)V"⟩ : MethodName)) hown (mvT hZ (hw _ (List.mem_of_getElem? (i := 81) rfl))) (mvT hZ (hw _ (List.mem_of_getElem? (i := 82) rfl))) (notFace_of_selects (args := #[]) (mvT hZ (hw _ (List.mem_of_getElem? (i := 84) rfl)))) (mvT hZ (hw _ (List.mem_of_getElem? (i := 84) rfl))) (mvT hZ (hw _ (List.mem_of_getElem? (i := 83) rfl))) (by decide) (backOf (W := 0) (rm14a l Z a0 hw [] b26 b1 (0 : Int32) h26 n0 (Nat.le_trans (Nat.le_trans (Nat.le_trans (Nat.le_trans (Nat.le_trans (Nat.le_trans (Nat.le_trans (Nat.le_trans (Nat.le_trans (Nat.le_trans (Nat.le_trans (Nat.le_trans (Nat.le_trans (Nat.le_trans (Nat.le_trans Z0 E1.1) K2.1) K4.1) K6.1) E7.1) K8.1) K10.1) K12.1) E13.1) K14.1) K16.1) (Keep.of_wr W19).1) (Keep.of_wr W22).1) (Keep.of_wr W25).1) E26.1) F_first_b26 F_last_b26 F_size_b26 A26 g_b26) hZ (hw _ (List.mem_of_getElem? (i := 85) rfl)) (hw _ (List.mem_of_getElem? (i := 30) rfl)) (by decide) (by decide)) q43a q43c (g := (mkF m 113 #[.val (.int p1), .val (.int p2), .val (.int (3 : Int32)), .val (.ref b1), .val (.ref b7), .val (.ref b13), .val (.ref b26), .unset, .unset, .unset, .unset] [(.ref b1), (.ref b26)])) rfl (by rw [hml]; rfl) (Steps.refl _) (argsL := [(.ref b1)]) (rest := []) (lenOf pd0_7 rfl) rfl (by show 2 * 0 + _ ≤ _; exact Nat.le_of_eq rfl) (hb hby at_113) (fun _ _ => ⟨rfl, e27, (by decide : 9 + 0 ≤ _), (by decide : 23 + 0 ≤ _)⟩)
    dsimp only [Pt.U, Pt.locs, Pt.cells, Pt.slots] at X43 l43 y43 z43 st43 hQ43
    subst l43 y43 z43
    obtain ⟨rfl, N43q, K43, G43_0, G43_1, G43_2, G43_3⟩ := hQ43
    have N43 := Fr.app N27 N43q
    refine goT st43 ?_
    show Go p.tables e below T43 (mkF m 116 #[.val (.int p1), .val (.int p2), .val (.int (3 : Int32)), .val (.ref b1), .val (.ref b7), .val (.ref b13), .val (.ref b26), .unset, .unset, .unset, .unset] []) _
    refine go1 (fun _ => XS.iloadN X43.here hx rfl (hb hby at_116) rfl) ?_
    show Go p.tables e below T43 (mkF m 117 #[.val (.int p1), .val (.int p2), .val (.int (3 : Int32)), .val (.ref b1), .val (.ref b7), .val (.ref b13), .val (.ref b26), .unset, .unset, .unset, .unset] [(.int (3 : Int32))]) _
    refine go1 (fun _ => XS.iconst X43.here hx rfl (hb hby at_117)) ?_
    show Go p.tables e below T43 (mkF m 118 #[.val (.int p1), .val (.int p2), .val (.int (3 : Int32)), .val (.ref b1), .val (.ref b7), .val (.ref b13), .val (.ref b26), .unset, .unset, .unset, .unset] [(.int (2 : Int32)), (.int (3 : Int32))]) _
    refine go1 (fun _ => XS.icmpNo X43.here hx rfl (hb hby at_118) rfl (flt (by decide : ¬ ((3 : Int32) < (2 : Int32)))).1) ?_
    show Go p.tables e below T43 (mkF m 121 #[.val (.int p1), .val (.int p2), .val (.int (3 : Int32)), .val (.ref b1), .val (.ref b7), .val (.ref b13), .val (.ref b26), .unset, .unset, .unset, .unset] []) _
    refine go1 (fun _ => XS.aload X43.here hx rfl (hb hby at_121) rfl rfl) ?_
    show Go p.tables e below T43 (mkF m 123 #[.val (.int p1), .val (.int p2), .val (.int (3 : Int32)), .val (.ref b1), .val (.ref b7), .val (.ref b13), .val (.ref b26), .unset, .unset, .unset, .unset] [(.ref b26)]) _
    refine go1 (fun _ => XS.aload X43.here hx rfl (hb hby at_123) rfl rfl) ?_
    show Go p.tables e below T43 (mkF m 125 #[.val (.int p1), .val (.int p2), .val (.int (3 : Int32)), .val (.ref b1), .val (.ref b7), .val (.ref b13), .val (.ref b26), .unset, .unset, .unset, .unset] [(.ref b7), (.ref b26)]) _
    obtain ⟨cq44, kq44, q44a, q44b, q44c⟩ := isOf hZ rfl G43_0
    obtain ⟨_, _, ⟨T44, L44, k44, n44⟩, -, X44, ⟨Lc44, hQ44, l44, y44, z44⟩, st44⟩ := X43.virtualBack hx (y := (⟨"com/example/carmine/carmine/RedBlack$Links", "add", "(Lcom/example/carmine/carmine/Node;)V"⟩ : MethodName)) (z := (⟨"com/example/carmine/carmine/RedBlack$Links", "add", "(Lcom/example/carmine/carmine/Node;)V"⟩ : MethodName)) hown (mvT hZ (hw _ (List.mem_of_getElem? (i := 81) rfl))) (mvT hZ (hw _ (List.mem_of_getElem? (i := 82) rfl))) (notFace_of_selects (args := #[]) (mvT hZ (hw _ (List.mem_of_getElem? (i := 84) rfl)))) (mvT hZ (hw _ (List.mem_of_getElem? (i := 84) rfl))) (mvT hZ (hw _ (List.mem_of_getElem? (i := 83) rfl))) (by decide) (backOf (W := 0) (rm14b l Z a0 hw [] b26 b7 (1 : Int32) b1 b1 .null (1 : Int32) u18 T43.heap n0 (Nat.le_trans (Nat.le_trans (Nat.le_trans (Nat.le_trans (Nat.le_trans (Nat.le_trans (Nat.le_trans (Nat.le_trans (Nat.le_trans (Nat.le_trans (Nat.le_trans (Nat.le_trans (Nat.le_trans (Nat.le_trans (Nat.le_trans (Nat.le_trans Z0 E1.1) K2.1) K4.1) K6.1) E7.1) K8.1) K10.1) K12.1) E13.1) K14.1) K16.1) (Keep.of_wr W19).1) (Keep.of_wr W22).1) (Keep.of_wr W25).1) E26.1) K43.1) G43_1 G43_2 G43_3 G43_0 g_b26 ((((((((((((G6_0.ext E7).keep K8).keep K10).keep K12).ext E13).keep K14).keep K16).wr W19).wr W22).wr W25).ext E26).keep K43) g_b1 ((((((((((((G6_1.ext E7).keep K8 nin0).keep K10 nin0).keep K12 (ninS (Nat.ne_of_lt (Nat.lt_of_lt_of_le G6_3.lt (Nat.le_of_eq g7.symm))) nin0)).ext E13).keep K14 nin0).keep K16 (ninS (Nat.ne_of_lt (Nat.lt_of_lt_of_le ((((G6_3.ext E7).keep K8 nin0).keep K10 nin0).keep K12 (ninS (Nat.ne_of_lt (Nat.lt_of_lt_of_le G6_3.lt (Nat.le_of_eq g7.symm))) nin0)).lt (Nat.le_of_eq g13.symm))) nin0)).other W19 (Or.inr (slot_ne (Or.inl (hw _ (List.mem_of_getElem? (i := 109) rfl))) (Or.inl (hw _ (List.mem_of_getElem? (i := 27) rfl))) (by decide) (t := (.object "com/example/carmine/carmine/Node")) (t' := (.object "com/example/carmine/carmine/Node")) (by decide) (by decide)))).other W22 (Or.inl (Nat.ne_of_lt (Nat.lt_of_lt_of_le G6_3.lt (Nat.le_of_eq g7.symm))))).other W25 (Or.inl (Nat.ne_of_lt (Nat.lt_of_lt_of_le ((((G6_3.ext E7).keep K8 nin0).keep K10 nin0).keep K12 (ninS (Nat.ne_of_lt (Nat.lt_of_lt_of_le G6_3.lt (Nat.le_of_eq g7.symm))) nin0)).lt (Nat.le_of_eq g13.symm))))).ext E26).keep K43 (ninS (Nat.ne_of_lt (Nat.lt_of_lt_of_le ((Fw19.other W22 (Or.inl (Nat.ne_of_lt (Nat.lt_of_lt_of_le G6_3.lt (Nat.le_of_eq g7.symm))))).other W25 (Or.inl (Nat.ne_of_lt (Nat.lt_of_lt_of_le ((((G6_3.ext E7).keep K8 nin0).keep K10 nin0).keep K12 (ninS (Nat.ne_of_lt (Nat.lt_of_lt_of_le G6_3.lt (Nat.le_of_eq g7.symm))) nin0)).lt (Nat.le_of_eq g13.symm))))).lt (Nat.le_of_eq g26.symm))) nin0)) ((((((((((((G6_3.ext E7).keep K8 nin0).keep K10 nin0).keep K12 (ninS (Nat.ne_of_lt (Nat.lt_of_lt_of_le G6_3.lt (Nat.le_of_eq g7.symm))) nin0)).ext E13).keep K14 nin0).keep K16 (ninS (Nat.ne_of_lt (Nat.lt_of_lt_of_le ((((G6_3.ext E7).keep K8 nin0).keep K10 nin0).keep K12 (ninS (Nat.ne_of_lt (Nat.lt_of_lt_of_le G6_3.lt (Nat.le_of_eq g7.symm))) nin0)).lt (Nat.le_of_eq g13.symm))) nin0)).other W19 (Or.inr (slot_ne (Or.inl (hw _ (List.mem_of_getElem? (i := 21) rfl))) (Or.inl (hw _ (List.mem_of_getElem? (i := 27) rfl))) (by decide) (t := .int) (t' := (.object "com/example/carmine/carmine/Node")) (by decide) (by decide)))).other W22 (Or.inl (Nat.ne_of_lt (Nat.lt_of_lt_of_le G6_3.lt (Nat.le_of_eq g7.symm))))).other W25 (Or.inl (Nat.ne_of_lt (Nat.lt_of_lt_of_le ((((G6_3.ext E7).keep K8 nin0).keep K10 nin0).keep K12 (ninS (Nat.ne_of_lt (Nat.lt_of_lt_of_le G6_3.lt (Nat.le_of_eq g7.symm))) nin0)).lt (Nat.le_of_eq g13.symm))))).ext E26).keep K43 (ninS (Nat.ne_of_lt (Nat.lt_of_lt_of_le ((Fw19.other W22 (Or.inl (Nat.ne_of_lt (Nat.lt_of_lt_of_le G6_3.lt (Nat.le_of_eq g7.symm))))).other W25 (Or.inl (Nat.ne_of_lt (Nat.lt_of_lt_of_le ((((G6_3.ext E7).keep K8 nin0).keep K10 nin0).keep K12 (ninS (Nat.ne_of_lt (Nat.lt_of_lt_of_le G6_3.lt (Nat.le_of_eq g7.symm))) nin0)).lt (Nat.le_of_eq g13.symm))))).lt (Nat.le_of_eq g26.symm))) nin0)) ((((Fw19.other W22 (Or.inl (Nat.ne_of_lt (Nat.lt_of_lt_of_le G6_3.lt (Nat.le_of_eq g7.symm))))).other W25 (Or.inl (Nat.ne_of_lt (Nat.lt_of_lt_of_le ((((G6_3.ext E7).keep K8 nin0).keep K10 nin0).keep K12 (ninS (Nat.ne_of_lt (Nat.lt_of_lt_of_le G6_3.lt (Nat.le_of_eq g7.symm))) nin0)).lt (Nat.le_of_eq g13.symm))))).ext E26).keep K43 (ninS (Nat.ne_of_lt (Nat.lt_of_lt_of_le ((Fw19.other W22 (Or.inl (Nat.ne_of_lt (Nat.lt_of_lt_of_le G6_3.lt (Nat.le_of_eq g7.symm))))).other W25 (Or.inl (Nat.ne_of_lt (Nat.lt_of_lt_of_le ((((G6_3.ext E7).keep K8 nin0).keep K10 nin0).keep K12 (ninS (Nat.ne_of_lt (Nat.lt_of_lt_of_le G6_3.lt (Nat.le_of_eq g7.symm))) nin0)).lt (Nat.le_of_eq g13.symm))))).lt (Nat.le_of_eq g26.symm))) nin0)) (Nat.ne_of_lt (Nat.lt_of_lt_of_le ((Fw19.other W22 (Or.inl (Nat.ne_of_lt (Nat.lt_of_lt_of_le G6_3.lt (Nat.le_of_eq g7.symm))))).other W25 (Or.inl (Nat.ne_of_lt (Nat.lt_of_lt_of_le ((((G6_3.ext E7).keep K8 nin0).keep K10 nin0).keep K12 (ninS (Nat.ne_of_lt (Nat.lt_of_lt_of_le G6_3.lt (Nat.le_of_eq g7.symm))) nin0)).lt (Nat.le_of_eq g13.symm))))).lt (Nat.le_of_eq g26.symm)))) hZ (hw _ (List.mem_of_getElem? (i := 85) rfl)) (hw _ (List.mem_of_getElem? (i := 30) rfl)) (by decide) (by decide)) q44a q44c (g := (mkF m 125 #[.val (.int p1), .val (.int p2), .val (.int (3 : Int32)), .val (.ref b1), .val (.ref b7), .val (.ref b13), .val (.ref b26), .unset, .unset, .unset, .unset] [(.ref b7), (.ref b26)])) rfl (by rw [hml]; rfl) (Steps.refl _) (argsL := [(.ref b7)]) (rest := []) (lenOf pd0_7 rfl) rfl (by show 2 * 0 + _ ≤ _; exact Nat.le_of_eq rfl) (hb hby at_125) (fun _ _ => ⟨rfl, rfl, (by decide : 9 + 0 ≤ _), (by decide : 23 + 0 ≤ _)⟩)
    dsimp only [Pt.U, Pt.locs, Pt.cells, Pt.slots] at X44 l44 y44 z44 st44 hQ44
    subst l44 y44 z44
    obtain ⟨rfl, N44q, K44, G44_0, G44_1, G44_2, G44_3, G44_4, G44_5, G44_6, G44_7⟩ := hQ44
    have N44 := Fr.app N43 N44q
    refine goT st44 ?_
    show Go p.tables e below T44 (mkF m 128 #[.val (.int p1), .val (.int p2), .val (.int (3 : Int32)), .val (.ref b1), .val (.ref b7), .val (.ref b13), .val (.ref b26), .unset, .unset, .unset, .unset] []) _
    refine go1 (fun _ => XS.iloadN X44.here hx rfl (hb hby at_128) rfl) ?_
    show Go p.tables e below T44 (mkF m 129 #[.val (.int p1), .val (.int p2), .val (.int (3 : Int32)), .val (.ref b1), .val (.ref b7), .val (.ref b13), .val (.ref b26), .unset, .unset, .unset, .unset] [(.int (3 : Int32))]) _
    refine go1 (fun _ => XS.iconst X44.here hx rfl (hb hby at_129)) ?_
    show Go p.tables e below T44 (mkF m 130 #[.val (.int p1), .val (.int p2), .val (.int (3 : Int32)), .val (.ref b1), .val (.ref b7), .val (.ref b13), .val (.ref b26), .unset, .unset, .unset, .unset] [(.int (3 : Int32)), (.int (3 : Int32))]) _
    refine go1 (fun _ => XS.icmpNo X44.here hx rfl (hb hby at_130) rfl (flt (by decide : ¬ ((3 : Int32) < (3 : Int32)))).1) ?_
    show Go p.tables e below T44 (mkF m 133 #[.val (.int p1), .val (.int p2), .val (.int (3 : Int32)), .val (.ref b1), .val (.ref b7), .val (.ref b13), .val (.ref b26), .unset, .unset, .unset, .unset] []) _
    refine go1 (fun _ => XS.aload X44.here hx rfl (hb hby at_133) rfl rfl) ?_
    show Go p.tables e below T44 (mkF m 135 #[.val (.int p1), .val (.int p2), .val (.int (3 : Int32)), .val (.ref b1), .val (.ref b7), .val (.ref b13), .val (.ref b26), .unset, .unset, .unset, .unset] [(.ref b26)]) _
    refine go1 (fun _ => XS.aload X44.here hx rfl (hb hby at_135) rfl rfl) ?_
    show Go p.tables e below T44 (mkF m 137 #[.val (.int p1), .val (.int p2), .val (.int (3 : Int32)), .val (.ref b1), .val (.ref b7), .val (.ref b13), .val (.ref b26), .unset, .unset, .unset, .unset] [(.ref b13), (.ref b26)]) _
    obtain ⟨cq45, kq45, q45a, q45b, q45c⟩ := isOf hZ rfl G44_0
    obtain ⟨_, _, ⟨T45, L45, k45, n45⟩, -, X45, ⟨Lc45, hQ45, l45, y45, z45⟩, st45⟩ := X44.virtualBack hx (y := (⟨"com/example/carmine/carmine/RedBlack$Links", "add", "(Lcom/example/carmine/carmine/Node;)V"⟩ : MethodName)) (z := (⟨"com/example/carmine/carmine/RedBlack$Links", "add", "(Lcom/example/carmine/carmine/Node;)V"⟩ : MethodName)) hown (mvT hZ (hw _ (List.mem_of_getElem? (i := 81) rfl))) (mvT hZ (hw _ (List.mem_of_getElem? (i := 82) rfl))) (notFace_of_selects (args := #[]) (mvT hZ (hw _ (List.mem_of_getElem? (i := 84) rfl)))) (mvT hZ (hw _ (List.mem_of_getElem? (i := 84) rfl))) (mvT hZ (hw _ (List.mem_of_getElem? (i := 83) rfl))) (by decide) (backOf (W := 0) (rm14b l Z a0 hw [] b26 b13 (2 : Int32) b1 b7 .null (1 : Int32) u21 T44.heap n0 (Nat.le_trans (Nat.le_trans (Nat.le_trans (Nat.le_trans (Nat.le_trans (Nat.le_trans (Nat.le_trans (Nat.le_trans (Nat.le_trans (Nat.le_trans (Nat.le_trans (Nat.le_trans (Nat.le_trans (Nat.le_trans (Nat.le_trans (Nat.le_trans (Nat.le_trans Z0 E1.1) K2.1) K4.1) K6.1) E7.1) K8.1) K10.1) K12.1) E13.1) K14.1) K16.1) (Keep.of_wr W19).1) (Keep.of_wr W22).1) (Keep.of_wr W25).1) E26.1) K43.1) K44.1) G44_2 G44_3 G44_4 G44_0 g_b26 (((((((((G12_0.ext E13).keep K14).keep K16).wr W19).wr W22).wr W25).ext E26).keep K43).keep K44) g_b7 (((((((((G12_1.ext E13).keep K14 nin0).keep K16 (ninS (Nat.ne_of_lt (Nat.lt_of_lt_of_le G12_3.lt (Nat.le_of_eq g13.symm))) nin0)).other W19 (Or.inl (Ne.symm (Nat.ne_of_lt (Nat.lt_of_lt_of_le G6_3.lt (Nat.le_of_eq g7.symm)))))).other W22 (Or.inr (slot_ne (Or.inl (hw _ (List.mem_of_getElem? (i := 109) rfl))) (Or.inl (hw _ (List.mem_of_getElem? (i := 27) rfl))) (by decide) (t := (.object "com/example/carmine/carmine/Node")) (t' := (.object "com/example/carmine/carmine/Node")) (by decide) (by decide)))).other W25 (Or.inl (Nat.ne_of_lt (Nat.lt_of_lt_of_le G12_3.lt (Nat.le_of_eq g13.symm))))).ext E26).keep K43 (ninS (Nat.ne_of_lt (Nat.lt_of_lt_of_le (Fw22.other W25 (Or.inl (Nat.ne_of_lt (Nat.lt_of_lt_of_le G12_3.lt (Nat.le_of_eq g13.symm))))).lt (Nat.le_of_eq g26.symm))) nin0)).keep K44 (ninS (Nat.ne_of_lt (Nat.lt_of_lt_of_le (Fw22.other W25 (Or.inl (Nat.ne_of_lt (Nat.lt_of_lt_of_le G12_3.lt (Nat.le_of_eq g13.symm))))).lt (Nat.le_of_eq g26.symm))) (ninS (Ne.symm (Nat.ne_of_lt (Nat.lt_of_lt_of_le G6_3.lt (Nat.le_of_eq g7.symm)))) nin0))) (((((((((G12_3.ext E13).keep K14 nin0).keep K16 (ninS (Nat.ne_of_lt (Nat.lt_of_lt_of_le G12_3.lt (Nat.le_of_eq g13.symm))) nin0)).other W19 (Or.inl (Ne.symm (Nat.ne_of_lt (Nat.lt_of_lt_of_le G6_3.lt (Nat.le_of_eq g7.symm)))))).other W22 (Or.inr (slot_ne (Or.inl (hw _ (List.mem_of_getElem? (i := 21) rfl))) (Or.inl (hw _ (List.mem_of_getElem? (i := 27) rfl))) (by decide) (t := .int) (t' := (.object "com/example/carmine/carmine/Node")) (by decide) (by decide)))).other W25 (Or.inl (Nat.ne_of_lt (Nat.lt_of_lt_of_le G12_3.lt (Nat.le_of_eq g13.symm))))).ext E26).keep K43 (ninS (Nat.ne_of_lt (Nat.lt_of_lt_of_le (Fw22.other W25 (Or.inl (Nat.ne_of_lt (Nat.lt_of_lt_of_le G12_3.lt (Nat.le_of_eq g13.symm))))).lt (Nat.le_of_eq g26.symm))) nin0)).keep K44 (ninS (Nat.ne_of_lt (Nat.lt_of_lt_of_le (Fw22.other W25 (Or.inl (Nat.ne_of_lt (Nat.lt_of_lt_of_le G12_3.lt (Nat.le_of_eq g13.symm))))).lt (Nat.le_of_eq g26.symm))) (ninS (Ne.symm (Nat.ne_of_lt (Nat.lt_of_lt_of_le G6_3.lt (Nat.le_of_eq g7.symm)))) nin0))) ((((Fw22.other W25 (Or.inl (Nat.ne_of_lt (Nat.lt_of_lt_of_le G12_3.lt (Nat.le_of_eq g13.symm))))).ext E26).keep K43 (ninS (Nat.ne_of_lt (Nat.lt_of_lt_of_le (Fw22.other W25 (Or.inl (Nat.ne_of_lt (Nat.lt_of_lt_of_le G12_3.lt (Nat.le_of_eq g13.symm))))).lt (Nat.le_of_eq g26.symm))) nin0)).keep K44 (ninS (Nat.ne_of_lt (Nat.lt_of_lt_of_le (Fw22.other W25 (Or.inl (Nat.ne_of_lt (Nat.lt_of_lt_of_le G12_3.lt (Nat.le_of_eq g13.symm))))).lt (Nat.le_of_eq g26.symm))) (ninS (Ne.symm (Nat.ne_of_lt (Nat.lt_of_lt_of_le G6_3.lt (Nat.le_of_eq g7.symm)))) nin0))) (Nat.ne_of_lt (Nat.lt_of_lt_of_le (Fw22.other W25 (Or.inl (Nat.ne_of_lt (Nat.lt_of_lt_of_le G12_3.lt (Nat.le_of_eq g13.symm))))).lt (Nat.le_of_eq g26.symm)))) hZ (hw _ (List.mem_of_getElem? (i := 85) rfl)) (hw _ (List.mem_of_getElem? (i := 30) rfl)) (by decide) (by decide)) q45a q45c (g := (mkF m 137 #[.val (.int p1), .val (.int p2), .val (.int (3 : Int32)), .val (.ref b1), .val (.ref b7), .val (.ref b13), .val (.ref b26), .unset, .unset, .unset, .unset] [(.ref b13), (.ref b26)])) rfl (by rw [hml]; rfl) (Steps.refl _) (argsL := [(.ref b13)]) (rest := []) (lenOf pd0_7 rfl) rfl (by show 2 * 0 + _ ≤ _; exact Nat.le_of_eq rfl) (hb hby at_137) (fun _ _ => ⟨rfl, rfl, (by decide : 9 + 0 ≤ _), (by decide : 23 + 0 ≤ _)⟩)
    dsimp only [Pt.U, Pt.locs, Pt.cells, Pt.slots] at X45 l45 y45 z45 st45 hQ45
    subst l45 y45 z45
    obtain ⟨rfl, N45q, K45, G45_0, G45_1, G45_2, G45_3, G45_4, G45_5, G45_6, G45_7⟩ := hQ45
    have N45 := Fr.app N44 N45q
    refine goT st45 ?_
    show Go p.tables e below T45 (mkF m 140 #[.val (.int p1), .val (.int p2), .val (.int (3 : Int32)), .val (.ref b1), .val (.ref b7), .val (.ref b13), .val (.ref b26), .unset, .unset, .unset, .unset] []) _
    refine go1 (fun _ => XS.iloadN X45.here hx rfl (hb hby at_140) rfl) ?_
    show Go p.tables e below T45 (mkF m 141 #[.val (.int p1), .val (.int p2), .val (.int (3 : Int32)), .val (.ref b1), .val (.ref b7), .val (.ref b13), .val (.ref b26), .unset, .unset, .unset, .unset] [(.int (3 : Int32))]) _
    refine go1 (fun _ => XS.ifYes X45.here hx rfl (pc0 := 141) (pc' := 148) rfl (hb hby at_141) rfl ((if0 _ _).trans (feq (by decide : ¬ ((3 : Int32) = (0 : Int32)))).2) (by decide) (by decide)) ?_
    show Go p.tables e below T45 (mkF m 148 #[.val (.int p1), .val (.int p2), .val (.int (3 : Int32)), .val (.ref b1), .val (.ref b7), .val (.ref b13), .val (.ref b26), .unset, .unset, .unset, .unset] []) _
    refine go1 (fun _ => XS.iloadN X45.here hx rfl (hb hby at_148) rfl) ?_
    show Go p.tables e below T45 (mkF m 149 #[.val (.int p1), .val (.int p2), .val (.int (3 : Int32)), .val (.ref b1), .val (.ref b7), .val (.ref b13), .val (.ref b26), .unset, .unset, .unset, .unset] [(.int (3 : Int32))]) _
    refine go1 (fun _ => XS.iconst X45.here hx rfl (hb hby at_149)) ?_
    show Go p.tables e below T45 (mkF m 150 #[.val (.int p1), .val (.int p2), .val (.int (3 : Int32)), .val (.ref b1), .val (.ref b7), .val (.ref b13), .val (.ref b26), .unset, .unset, .unset, .unset] [(.int (1 : Int32)), (.int (3 : Int32))]) _
    refine go1 (fun _ => XS.icmpYes X45.here hx rfl (pc0 := 150) (pc' := 157) rfl (hb hby at_150) rfl (feq (by decide : ¬ ((3 : Int32) = (1 : Int32)))).2 (by decide) (by decide)) ?_
    show Go p.tables e below T45 (mkF m 157 #[.val (.int p1), .val (.int p2), .val (.int (3 : Int32)), .val (.ref b1), .val (.ref b7), .val (.ref b13), .val (.ref b26), .unset, .unset, .unset, .unset] []) _
    refine go1 (fun _ => XS.iloadN X45.here hx rfl (hb hby at_157) rfl) ?_
    show Go p.tables e below T45 (mkF m 158 #[.val (.int p1), .val (.int p2), .val (.int (3 : Int32)), .val (.ref b1), .val (.ref b7), .val (.ref b13), .val (.ref b26), .unset, .unset, .unset, .unset] [(.int (3 : Int32))]) _
    refine go1 (fun _ => XS.iconst X45.here hx rfl (hb hby at_158)) ?_
    show Go p.tables e below T45 (mkF m 159 #[.val (.int p1), .val (.int p2), .val (.int (3 : Int32)), .val (.ref b1), .val (.ref b7), .val (.ref b13), .val (.ref b26), .unset, .unset, .unset, .unset] [(.int (2 : Int32)), (.int (3 : Int32))]) _
    refine go1 (fun _ => XS.icmpYes X45.here hx rfl (pc0 := 159) (pc' := 167) rfl (hb hby at_159) rfl (feq (by decide : ¬ ((3 : Int32) = (2 : Int32)))).2 (by decide) (by decide)) ?_
    show Go p.tables e below T45 (mkF m 167 #[.val (.int p1), .val (.int p2), .val (.int (3 : Int32)), .val (.ref b1), .val (.ref b7), .val (.ref b13), .val (.ref b26), .unset, .unset, .unset, .unset] []) _
    refine go1 (fun _ => XS.aload X45.here hx rfl (hb hby at_167) rfl rfl) ?_
    show Go p.tables e below T45 (mkF m 169 #[.val (.int p1), .val (.int p2), .val (.int (3 : Int32)), .val (.ref b1), .val (.ref b7), .val (.ref b13), .val (.ref b26), .unset, .unset, .unset, .unset] [(.ref b13)]) _
    refine go1 (fun _ => XS.astore X45.here hx rfl (hb hby at_169) rfl rfl (l' := #[.val (.int p1), .val (.int p2), .val (.int (3 : Int32)), .val (.ref b1), .val (.ref b7), .val (.ref b13), .val (.ref b26), .val (.ref b13), .unset, .unset, .unset]) rfl) ?_
    show Go p.tables e below T45 (mkF m 171 #[.val (.int p1), .val (.int p2), .val (.int (3 : Int32)), .val (.ref b1), .val (.ref b7), .val (.ref b13), .val (.ref b26), .val (.ref b13), .unset, .unset, .unset] []) _
    refine go1 (fun _ => XS.aload X45.here hx rfl (hb hby at_171) rfl rfl) ?_
    show Go p.tables e below T45 (mkF m 173 #[.val (.int p1), .val (.int p2), .val (.int (3 : Int32)), .val (.ref b1), .val (.ref b7), .val (.ref b13), .val (.ref b26), .val (.ref b13), .unset, .unset, .unset] [(.ref b26)]) _
    obtain ⟨cq46, kq46, q46a, q46b, q46c⟩ := isOf hZ rfl G45_0
    obtain ⟨_, _, ⟨T46, L46, k46, n46⟩, -, X46, ⟨Lc46, hQ46, l46, y46, z46⟩, st46⟩ := X45.virtualBack hx (y := (⟨"com/example/carmine/carmine/RedBlack$Links", "last", "()Lcom/example/carmine/carmine/Node;"⟩ : MethodName)) (z := (⟨"com/example/carmine/carmine/RedBlack$Links", "last", "()Lcom/example/carmine/carmine/Node;"⟩ : MethodName)) hown (mvT hZ (hw _ (List.mem_of_getElem? (i := 35) rfl))) (mvT hZ (hw _ (List.mem_of_getElem? (i := 36) rfl))) (notFace_of_selects (args := #[]) (mvT hZ (hw _ (List.mem_of_getElem? (i := 38) rfl)))) (mvT hZ (hw _ (List.mem_of_getElem? (i := 38) rfl))) (mvT hZ (hw _ (List.mem_of_getElem? (i := 37) rfl))) (by decide) (backOf (W := 0) (rm6 l Z a0 hw [] b26 (.ref b13) T45.heap n0 (Nat.le_trans (Nat.le_trans (Nat.le_trans (Nat.le_trans (Nat.le_trans (Nat.le_trans (Nat.le_trans (Nat.le_trans (Nat.le_trans (Nat.le_trans (Nat.le_trans (Nat.le_trans (Nat.le_trans (Nat.le_trans (Nat.le_trans (Nat.le_trans (Nat.le_trans (Nat.le_trans Z0 E1.1) K2.1) K4.1) K6.1) E7.1) K8.1) K10.1) K12.1) E13.1) K14.1) K16.1) (Keep.of_wr W19).1) (Keep.of_wr W22).1) (Keep.of_wr W25).1) E26.1) K43.1) K44.1) K45.1) G45_3 (by first | assumption | decide | rfl)) hZ (hw _ (List.mem_of_getElem? (i := 39) rfl)) (hw _ (List.mem_of_getElem? (i := 30) rfl)) (by decide) (by decide)) q46a q46c (g := (mkF m 173 #[.val (.int p1), .val (.int p2), .val (.int (3 : Int32)), .val (.ref b1), .val (.ref b7), .val (.ref b13), .val (.ref b26), .val (.ref b13), .unset, .unset, .unset] [(.ref b26)])) rfl (by rw [hml]; rfl) (Steps.refl _) (argsL := []) (rest := []) (lenOf pd0_4 rfl) rfl (by show 2 * 0 + _ ≤ _; exact Nat.le_of_eq rfl) (hb hby at_173) (fun _ _ => ⟨rfl, rfl, (by decide : 9 + 0 ≤ _), (by decide : 23 + 0 ≤ _)⟩)
    dsimp only [Pt.U, Pt.locs, Pt.cells, Pt.slots] at X46 l46 y46 z46 st46 hQ46
    subst l46 y46 z46
    obtain ⟨rfl, N46q, e46⟩ := hQ46
    have N46 := Fr.app N45 N46q
    refine goT st46 ?_
    show Go p.tables e below T46 (mkF m 176 #[.val (.int p1), .val (.int p2), .val (.int (3 : Int32)), .val (.ref b1), .val (.ref b7), .val (.ref b13), .val (.ref b26), .val (.ref b13), .unset, .unset, .unset] [(.ref b13)]) _
    refine go1 (fun _ => XS.aload X46.here hx rfl (hb hby at_176) rfl rfl) ?_
    show Go p.tables e below T46 (mkF m 178 #[.val (.int p1), .val (.int p2), .val (.int (3 : Int32)), .val (.ref b1), .val (.ref b7), .val (.ref b13), .val (.ref b26), .val (.ref b13), .unset, .unset, .unset] [(.ref b13), (.ref b13)]) _
    refine go1 (fun _ => Jvm.RoadKit.acmp (g := (mkF m 178 #[.val (.int p1), .val (.int p2), .val (.int (3 : Int32)), .val (.ref b1), .val (.ref b7), .val (.ref b13), .val (.ref b26), .val (.ref b13), .unset, .unset, .unset] [(.ref b13), (.ref b13)])) X46 hx rfl rfl rfl (pc0 := 178) (pc' := 181) (same := true) rfl (hb hby at_178) rfl (decide_eq_true rfl) (by decide) (by decide)) ?_
    show Go p.tables e below T46 (mkF m 181 #[.val (.int p1), .val (.int p2), .val (.int (3 : Int32)), .val (.ref b1), .val (.ref b7), .val (.ref b13), .val (.ref b26), .val (.ref b13), .unset, .unset, .unset] []) _
    refine go1 (fun _ => XS.aload X46.here hx rfl (hb hby at_181) rfl rfl) ?_
    show Go p.tables e below T46 (mkF m 183 #[.val (.int p1), .val (.int p2), .val (.int (3 : Int32)), .val (.ref b1), .val (.ref b7), .val (.ref b13), .val (.ref b26), .val (.ref b13), .unset, .unset, .unset] [(.ref b26)]) _
    obtain ⟨cq47, kq47, q47a, q47b, q47c⟩ := isOf hZ e46 G45_0
    obtain ⟨_, _, ⟨T47, L47, k47, n47⟩, -, X47, ⟨Lc47, hQ47, l47, y47, z47⟩, st47⟩ := X46.virtualBack hx (y := (⟨"com/example/carmine/carmine/RedBlack$Links", "size", "()I"⟩ : MethodName)) (z := (⟨"com/example/carmine/carmine/RedBlack$Links", "size", "()I"⟩ : MethodName)) hown (mvT hZ (hw _ (List.mem_of_getElem? (i := 42) rfl))) (mvT hZ (hw _ (List.mem_of_getElem? (i := 43) rfl))) (notFace_of_selects (args := #[]) (mvT hZ (hw _ (List.mem_of_getElem? (i := 45) rfl)))) (mvT hZ (hw _ (List.mem_of_getElem? (i := 45) rfl))) (mvT hZ (hw _ (List.mem_of_getElem? (i := 44) rfl))) (by decide) (backOf (W := 0) (rm7 l Z a0 hw [] b26 (3 : Int32) T45.heap n0 (Nat.le_trans (Nat.le_trans (Nat.le_trans (Nat.le_trans (Nat.le_trans (Nat.le_trans (Nat.le_trans (Nat.le_trans (Nat.le_trans (Nat.le_trans (Nat.le_trans (Nat.le_trans (Nat.le_trans (Nat.le_trans (Nat.le_trans (Nat.le_trans (Nat.le_trans (Nat.le_trans Z0 E1.1) K2.1) K4.1) K6.1) E7.1) K8.1) K10.1) K12.1) E13.1) K14.1) K16.1) (Keep.of_wr W19).1) (Keep.of_wr W22).1) (Keep.of_wr W25).1) E26.1) K43.1) K44.1) K45.1) G45_4) hZ (hw _ (List.mem_of_getElem? (i := 46) rfl)) (hw _ (List.mem_of_getElem? (i := 30) rfl)) (by decide) (by decide)) q47a q47c (g := (mkF m 183 #[.val (.int p1), .val (.int p2), .val (.int (3 : Int32)), .val (.ref b1), .val (.ref b7), .val (.ref b13), .val (.ref b26), .val (.ref b13), .unset, .unset, .unset] [(.ref b26)])) rfl (by rw [hml]; rfl) (Steps.refl _) (argsL := []) (rest := []) (lenOf pd0_5 rfl) rfl (by show 2 * 0 + _ ≤ _; exact Nat.le_of_eq rfl) (hb hby at_183) (fun _ _ => ⟨rfl, e46, (by decide : 9 + 0 ≤ _), (by decide : 23 + 0 ≤ _)⟩)
    dsimp only [Pt.U, Pt.locs, Pt.cells, Pt.slots] at X47 l47 y47 z47 st47 hQ47
    subst l47 y47 z47
    obtain ⟨rfl, N47q, e47⟩ := hQ47
    have N47 := Fr.app N46 N47q
    refine goT st47 ?_
    show Go p.tables e below T47 (mkF m 186 #[.val (.int p1), .val (.int p2), .val (.int (3 : Int32)), .val (.ref b1), .val (.ref b7), .val (.ref b13), .val (.ref b26), .val (.ref b13), .unset, .unset, .unset] [(.int (3 : Int32))]) _
    refine go1 (fun _ => XS.iloadN X47.here hx rfl (hb hby at_186) rfl) ?_
    show Go p.tables e below T47 (mkF m 187 #[.val (.int p1), .val (.int p2), .val (.int (3 : Int32)), .val (.ref b1), .val (.ref b7), .val (.ref b13), .val (.ref b26), .val (.ref b13), .unset, .unset, .unset] [(.int (3 : Int32)), (.int (3 : Int32))]) _
    refine go1 (fun _ => XS.icmpNo X47.here hx rfl (hb hby at_187) rfl (teq (by decide : (3 : Int32) = (3 : Int32))).2) ?_
    show Go p.tables e below T47 (mkF m 190 #[.val (.int p1), .val (.int p2), .val (.int (3 : Int32)), .val (.ref b1), .val (.ref b7), .val (.ref b13), .val (.ref b26), .val (.ref b13), .unset, .unset, .unset] []) _
    refine go1 (fun _ => XS.iconst X47.here hx rfl (hb hby at_190)) ?_
    show Go p.tables e below T47 (mkF m 191 #[.val (.int p1), .val (.int p2), .val (.int (3 : Int32)), .val (.ref b1), .val (.ref b7), .val (.ref b13), .val (.ref b26), .val (.ref b13), .unset, .unset, .unset] [(.int (1 : Int32))]) _
    refine go1 (fun _ => XS.goto X47.here hx rfl (pc0 := 191) (pc' := 195) rfl (hb hby at_191) (by decide) (by decide)) ?_
    show Go p.tables e below T47 (mkF m 195 #[.val (.int p1), .val (.int p2), .val (.int (3 : Int32)), .val (.ref b1), .val (.ref b7), .val (.ref b13), .val (.ref b26), .val (.ref b13), .unset, .unset, .unset] [(.int (1 : Int32))]) _
    refine go1 (fun _ => XS.istore X47.here hx rfl (hb hby at_195) rfl (l' := #[.val (.int p1), .val (.int p2), .val (.int (3 : Int32)), .val (.ref b1), .val (.ref b7), .val (.ref b13), .val (.ref b26), .val (.ref b13), .val (.int (1 : Int32)), .unset, .unset]) rfl) ?_
    show Go p.tables e below T47 (mkF m 197 #[.val (.int p1), .val (.int p2), .val (.int (3 : Int32)), .val (.ref b1), .val (.ref b7), .val (.ref b13), .val (.ref b26), .val (.ref b13), .val (.int (1 : Int32)), .unset, .unset] []) _
    refine go1 (fun _ => XS.iloadN X47.here hx rfl (hb hby at_197) rfl) ?_
    show Go p.tables e below T47 (mkF m 198 #[.val (.int p1), .val (.int p2), .val (.int (3 : Int32)), .val (.ref b1), .val (.ref b7), .val (.ref b13), .val (.ref b26), .val (.ref b13), .val (.int (1 : Int32)), .unset, .unset] [(.int (3 : Int32))]) _
    refine go1 (fun _ => XS.iconst X47.here hx rfl (hb hby at_198)) ?_
    show Go p.tables e below T47 (mkF m 199 #[.val (.int p1), .val (.int p2), .val (.int (3 : Int32)), .val (.ref b1), .val (.ref b7), .val (.ref b13), .val (.ref b26), .val (.ref b13), .val (.int (1 : Int32)), .unset, .unset] [(.int (2 : Int32)), (.int (3 : Int32))]) _
    refine go1 (fun _ => XS.icmpNo X47.here hx rfl (hb hby at_199) rfl (flt (by decide : ¬ ((3 : Int32) < (2 : Int32)))).1) ?_
    show Go p.tables e below T47 (mkF m 202 #[.val (.int p1), .val (.int p2), .val (.int (3 : Int32)), .val (.ref b1), .val (.ref b7), .val (.ref b13), .val (.ref b26), .val (.ref b13), .val (.int (1 : Int32)), .unset, .unset] []) _
    refine go1 (fun _ => XS.iload X47.here hx rfl (hb hby at_202) rfl) ?_
    show Go p.tables e below T47 (mkF m 204 #[.val (.int p1), .val (.int p2), .val (.int (3 : Int32)), .val (.ref b1), .val (.ref b7), .val (.ref b13), .val (.ref b26), .val (.ref b13), .val (.int (1 : Int32)), .unset, .unset] [(.int (1 : Int32))]) _
    refine go1 (fun _ => XS.ifNo X47.here hx rfl (hb hby at_204) rfl ((if0 _ _).trans (feq (by decide : ¬ ((1 : Int32) = (0 : Int32)))).1)) ?_
    show Go p.tables e below T47 (mkF m 207 #[.val (.int p1), .val (.int p2), .val (.int (3 : Int32)), .val (.ref b1), .val (.ref b7), .val (.ref b13), .val (.ref b26), .val (.ref b13), .val (.int (1 : Int32)), .unset, .unset] []) _
    refine go1 (fun _ => XS.aloadN X47.here hx rfl (hb hby at_207) rfl rfl) ?_
    show Go p.tables e below T47 (mkF m 208 #[.val (.int p1), .val (.int p2), .val (.int (3 : Int32)), .val (.ref b1), .val (.ref b7), .val (.ref b13), .val (.ref b26), .val (.ref b13), .val (.int (1 : Int32)), .unset, .unset] [(.ref b1)]) _
    obtain ⟨T48, X48, e48, st48⟩ := getF X47 hx hZ hown (host := "") (Or.inl (hw _ (List.mem_of_getElem? (i := 26) rfl))) Via.refl e47 (G44_7.keep K45 (ninS (Nat.ne_of_lt (Nat.lt_of_lt_of_le ((Fw19.other W22 (Or.inl (Nat.ne_of_lt (Nat.lt_of_lt_of_le G6_3.lt (Nat.le_of_eq g7.symm))))).other W25 (Or.inl (Nat.ne_of_lt (Nat.lt_of_lt_of_le ((((G6_3.ext E7).keep K8 nin0).keep K10 nin0).keep K12 (ninS (Nat.ne_of_lt (Nat.lt_of_lt_of_le G6_3.lt (Nat.le_of_eq g7.symm))) nin0)).lt (Nat.le_of_eq g13.symm))))).lt (Nat.le_of_eq g26.symm))) (ninS (Nat.ne_of_lt (Nat.lt_of_lt_of_le G6_3.lt (Nat.le_of_eq g7.symm))) nin0))) (g := (mkF m 208 #[.val (.int p1), .val (.int p2), .val (.int (3 : Int32)), .val (.ref b1), .val (.ref b7), .val (.ref b13), .val (.ref b26), .val (.ref b13), .val (.int (1 : Int32)), .unset, .unset] [(.ref b1)])) rfl rfl (hb hby at_208)
    refine go1 st48 ?_
    show Go p.tables e below T48 (mkF m 211 #[.val (.int p1), .val (.int p2), .val (.int (3 : Int32)), .val (.ref b1), .val (.ref b7), .val (.ref b13), .val (.ref b26), .val (.ref b13), .val (.int (1 : Int32)), .unset, .unset] [(.ref b7)]) _
    refine go1 (fun _ => XS.aload X48.here hx rfl (hb hby at_211) rfl rfl) ?_
    show Go p.tables e below T48 (mkF m 213 #[.val (.int p1), .val (.int p2), .val (.int (3 : Int32)), .val (.ref b1), .val (.ref b7), .val (.ref b13), .val (.ref b26), .val (.ref b13), .val (.int (1 : Int32)), .unset, .unset] [(.ref b7), (.ref b7)]) _
    refine go1 (fun _ => Jvm.RoadKit.acmp (g := (mkF m 213 #[.val (.int p1), .val (.int p2), .val (.int (3 : Int32)), .val (.ref b1), .val (.ref b7), .val (.ref b13), .val (.ref b26), .val (.ref b13), .val (.int (1 : Int32)), .unset, .unset] [(.ref b7), (.ref b7)])) X48 hx rfl rfl rfl (pc0 := 213) (pc' := 216) (same := true) rfl (hb hby at_213) rfl (decide_eq_true rfl) (by decide) (by decide)) ?_
    show Go p.tables e below T48 (mkF m 216 #[.val (.int p1), .val (.int p2), .val (.int (3 : Int32)), .val (.ref b1), .val (.ref b7), .val (.ref b13), .val (.ref b26), .val (.ref b13), .val (.int (1 : Int32)), .unset, .unset] []) _
    refine go1 (fun _ => XS.iconst X48.here hx rfl (hb hby at_216)) ?_
    show Go p.tables e below T48 (mkF m 217 #[.val (.int p1), .val (.int p2), .val (.int (3 : Int32)), .val (.ref b1), .val (.ref b7), .val (.ref b13), .val (.ref b26), .val (.ref b13), .val (.int (1 : Int32)), .unset, .unset] [(.int (1 : Int32))]) _
    refine go1 (fun _ => XS.goto X48.here hx rfl (pc0 := 217) (pc' := 221) rfl (hb hby at_217) (by decide) (by decide)) ?_
    show Go p.tables e below T48 (mkF m 221 #[.val (.int p1), .val (.int p2), .val (.int (3 : Int32)), .val (.ref b1), .val (.ref b7), .val (.ref b13), .val (.ref b26), .val (.ref b13), .val (.int (1 : Int32)), .unset, .unset] [(.int (1 : Int32))]) _
    refine go1 (fun _ => XS.istore X48.here hx rfl (hb hby at_221) rfl (l' := #[.val (.int p1), .val (.int p2), .val (.int (3 : Int32)), .val (.ref b1), .val (.ref b7), .val (.ref b13), .val (.ref b26), .val (.ref b13), .val (.int (1 : Int32)), .unset, .unset]) rfl) ?_
    show Go p.tables e below T48 (mkF m 223 #[.val (.int p1), .val (.int p2), .val (.int (3 : Int32)), .val (.ref b1), .val (.ref b7), .val (.ref b13), .val (.ref b26), .val (.ref b13), .val (.int (1 : Int32)), .unset, .unset] []) _
    refine go1 (fun _ => XS.iloadN X48.here hx rfl (hb hby at_223) rfl) ?_
    show Go p.tables e below T48 (mkF m 224 #[.val (.int p1), .val (.int p2), .val (.int (3 : Int32)), .val (.ref b1), .val (.ref b7), .val (.ref b13), .val (.ref b26), .val (.ref b13), .val (.int (1 : Int32)), .unset, .unset] [(.int (3 : Int32))]) _
    refine go1 (fun _ => XS.iconst X48.here hx rfl (hb hby at_224)) ?_
    show Go p.tables e below T48 (mkF m 225 #[.val (.int p1), .val (.int p2), .val (.int (3 : Int32)), .val (.ref b1), .val (.ref b7), .val (.ref b13), .val (.ref b26), .val (.ref b13), .val (.int (1 : Int32)), .unset, .unset] [(.int (3 : Int32)), (.int (3 : Int32))]) _
    refine go1 (fun _ => XS.icmpNo X48.here hx rfl (hb hby at_225) rfl (flt (by decide : ¬ ((3 : Int32) < (3 : Int32)))).1) ?_
    show Go p.tables e below T48 (mkF m 228 #[.val (.int p1), .val (.int p2), .val (.int (3 : Int32)), .val (.ref b1), .val (.ref b7), .val (.ref b13), .val (.ref b26), .val (.ref b13), .val (.int (1 : Int32)), .unset, .unset] []) _
    refine go1 (fun _ => XS.iload X48.here hx rfl (hb hby at_228) rfl) ?_
    show Go p.tables e below T48 (mkF m 230 #[.val (.int p1), .val (.int p2), .val (.int (3 : Int32)), .val (.ref b1), .val (.ref b7), .val (.ref b13), .val (.ref b26), .val (.ref b13), .val (.int (1 : Int32)), .unset, .unset] [(.int (1 : Int32))]) _
    refine go1 (fun _ => XS.ifNo X48.here hx rfl (hb hby at_230) rfl ((if0 _ _).trans (feq (by decide : ¬ ((1 : Int32) = (0 : Int32)))).1)) ?_
    show Go p.tables e below T48 (mkF m 233 #[.val (.int p1), .val (.int p2), .val (.int (3 : Int32)), .val (.ref b1), .val (.ref b7), .val (.ref b13), .val (.ref b26), .val (.ref b13), .val (.int (1 : Int32)), .unset, .unset] []) _
    refine go1 (fun _ => XS.aload X48.here hx rfl (hb hby at_233) rfl rfl) ?_
    show Go p.tables e below T48 (mkF m 235 #[.val (.int p1), .val (.int p2), .val (.int (3 : Int32)), .val (.ref b1), .val (.ref b7), .val (.ref b13), .val (.ref b26), .val (.ref b13), .val (.int (1 : Int32)), .unset, .unset] [(.ref b7)]) _
    obtain ⟨T49, X49, e49, st49⟩ := getF X48 hx hZ hown (host := "") (Or.inl (hw _ (List.mem_of_getElem? (i := 26) rfl))) Via.refl e48 G45_7 (g := (mkF m 235 #[.val (.int p1), .val (.int p2), .val (.int (3 : Int32)), .val (.ref b1), .val (.ref b7), .val (.ref b13), .val (.ref b26), .val (.ref b13), .val (.int (1 : Int32)), .unset, .unset] [(.ref b7)])) rfl rfl (hb hby at_235)
    refine go1 st49 ?_
    show Go p.tables e below T49 (mkF m 238 #[.val (.int p1), .val (.int p2), .val (.int (3 : Int32)), .val (.ref b1), .val (.ref b7), .val (.ref b13), .val (.ref b26), .val (.ref b13), .val (.int (1 : Int32)), .unset, .unset] [(.ref b13)]) _
    refine go1 (fun _ => XS.aload X49.here hx rfl (hb hby at_238) rfl rfl) ?_
    show Go p.tables e below T49 (mkF m 240 #[.val (.int p1), .val (.int p2), .val (.int (3 : Int32)), .val (.ref b1), .val (.ref b7), .val (.ref b13), .val (.ref b26), .val (.ref b13), .val (.int (1 : Int32)), .unset, .unset] [(.ref b13), (.ref b13)]) _
    refine go1 (fun _ => Jvm.RoadKit.acmp (g := (mkF m 240 #[.val (.int p1), .val (.int p2), .val (.int (3 : Int32)), .val (.ref b1), .val (.ref b7), .val (.ref b13), .val (.ref b26), .val (.ref b13), .val (.int (1 : Int32)), .unset, .unset] [(.ref b13), (.ref b13)])) X49 hx rfl rfl rfl (pc0 := 240) (pc' := 243) (same := true) rfl (hb hby at_240) rfl (decide_eq_true rfl) (by decide) (by decide)) ?_
    show Go p.tables e below T49 (mkF m 243 #[.val (.int p1), .val (.int p2), .val (.int (3 : Int32)), .val (.ref b1), .val (.ref b7), .val (.ref b13), .val (.ref b26), .val (.ref b13), .val (.int (1 : Int32)), .unset, .unset] []) _
    refine go1 (fun _ => XS.iconst X49.here hx rfl (hb hby at_243)) ?_
    show Go p.tables e below T49 (mkF m 244 #[.val (.int p1), .val (.int p2), .val (.int (3 : Int32)), .val (.ref b1), .val (.ref b7), .val (.ref b13), .val (.ref b26), .val (.ref b13), .val (.int (1 : Int32)), .unset, .unset] [(.int (1 : Int32))]) _
    refine go1 (fun _ => XS.goto X49.here hx rfl (pc0 := 244) (pc' := 248) rfl (hb hby at_244) (by decide) (by decide)) ?_
    show Go p.tables e below T49 (mkF m 248 #[.val (.int p1), .val (.int p2), .val (.int (3 : Int32)), .val (.ref b1), .val (.ref b7), .val (.ref b13), .val (.ref b26), .val (.ref b13), .val (.int (1 : Int32)), .unset, .unset] [(.int (1 : Int32))]) _
    refine go1 (fun _ => XS.istore X49.here hx rfl (hb hby at_248) rfl (l' := #[.val (.int p1), .val (.int p2), .val (.int (3 : Int32)), .val (.ref b1), .val (.ref b7), .val (.ref b13), .val (.ref b26), .val (.ref b13), .val (.int (1 : Int32)), .unset, .unset]) rfl) ?_
    show Go p.tables e below T49 (mkF m 250 #[.val (.int p1), .val (.int p2), .val (.int (3 : Int32)), .val (.ref b1), .val (.ref b7), .val (.ref b13), .val (.ref b26), .val (.ref b13), .val (.int (1 : Int32)), .unset, .unset] []) _
    refine go1 (fun _ => XS.aload X49.here hx rfl (hb hby at_250) rfl rfl) ?_
    show Go p.tables e below T49 (mkF m 252 #[.val (.int p1), .val (.int p2), .val (.int (3 : Int32)), .val (.ref b1), .val (.ref b7), .val (.ref b13), .val (.ref b26), .val (.ref b13), .val (.int (1 : Int32)), .unset, .unset] [(.ref b26)]) _
    obtain ⟨_, _, ⟨T50, L50, k50, n50⟩, -, X50, ⟨Lc50, hQ50, l50, y50, z50⟩, st50⟩ := Jvm.LawKit.callS X49 hx (y := (⟨"com/example/carmine/carmine/RedBlack", "build", "(Lcom/example/carmine/carmine/RedBlack$Links;)Lcom/example/carmine/carmine/Node;"⟩ : MethodName)) hown (mvT hZ (hw _ (List.mem_of_getElem? (i := 49) rfl))) (mvT hZ (hw _ (List.mem_of_getElem? (i := 50) rfl))) (mvT hZ (hw _ (List.mem_of_getElem? (i := 51) rfl))) (mvT hZ (hw _ (List.mem_of_getElem? (i := 52) rfl))) (by decide) (backOf (W := 0) (rm8_3 l Z a0 hw [] b26 b1 b7 b13 u24 .null (1 : Int32) .null (1 : Int32) .null (1 : Int32) T45.heap n0 (Nat.le_trans (Nat.le_trans (Nat.le_trans (Nat.le_trans (Nat.le_trans (Nat.le_trans (Nat.le_trans (Nat.le_trans (Nat.le_trans (Nat.le_trans (Nat.le_trans (Nat.le_trans (Nat.le_trans (Nat.le_trans (Nat.le_trans (Nat.le_trans (Nat.le_trans (Nat.le_trans Z0 E1.1) K2.1) K4.1) K6.1) E7.1) K8.1) K10.1) K12.1) E13.1) K14.1) K16.1) (Keep.of_wr W19).1) (Keep.of_wr W22).1) (Keep.of_wr W25).1) E26.1) K43.1) K44.1) K45.1) G45_2 G45_4 (G44_5.keep K45 (ninS (Nat.ne_of_lt (Nat.lt_of_lt_of_le ((Fw19.other W22 (Or.inl (Nat.ne_of_lt (Nat.lt_of_lt_of_le G6_3.lt (Nat.le_of_eq g7.symm))))).other W25 (Or.inl (Nat.ne_of_lt (Nat.lt_of_lt_of_le ((((G6_3.ext E7).keep K8 nin0).keep K10 nin0).keep K12 (ninS (Nat.ne_of_lt (Nat.lt_of_lt_of_le G6_3.lt (Nat.le_of_eq g7.symm))) nin0)).lt (Nat.le_of_eq g13.symm))))).lt (Nat.le_of_eq g26.symm))) (ninS (Nat.ne_of_lt (Nat.lt_of_lt_of_le G6_3.lt (Nat.le_of_eq g7.symm))) nin0))) (G44_6.keep K45 (ninS (Nat.ne_of_lt (Nat.lt_of_lt_of_le ((Fw19.other W22 (Or.inl (Nat.ne_of_lt (Nat.lt_of_lt_of_le G6_3.lt (Nat.le_of_eq g7.symm))))).other W25 (Or.inl (Nat.ne_of_lt (Nat.lt_of_lt_of_le ((((G6_3.ext E7).keep K8 nin0).keep K10 nin0).keep K12 (ninS (Nat.ne_of_lt (Nat.lt_of_lt_of_le G6_3.lt (Nat.le_of_eq g7.symm))) nin0)).lt (Nat.le_of_eq g13.symm))))).lt (Nat.le_of_eq g26.symm))) (ninS (Nat.ne_of_lt (Nat.lt_of_lt_of_le G6_3.lt (Nat.le_of_eq g7.symm))) nin0))) (G44_7.keep K45 (ninS (Nat.ne_of_lt (Nat.lt_of_lt_of_le ((Fw19.other W22 (Or.inl (Nat.ne_of_lt (Nat.lt_of_lt_of_le G6_3.lt (Nat.le_of_eq g7.symm))))).other W25 (Or.inl (Nat.ne_of_lt (Nat.lt_of_lt_of_le ((((G6_3.ext E7).keep K8 nin0).keep K10 nin0).keep K12 (ninS (Nat.ne_of_lt (Nat.lt_of_lt_of_le G6_3.lt (Nat.le_of_eq g7.symm))) nin0)).lt (Nat.le_of_eq g13.symm))))).lt (Nat.le_of_eq g26.symm))) (ninS (Nat.ne_of_lt (Nat.lt_of_lt_of_le G6_3.lt (Nat.le_of_eq g7.symm))) nin0))) (G44_1.keep K45) g_b1 G45_5 G45_6 G45_7 G45_1 g_b7 (((((((G16_1.other W19 (Or.inl (Ne.symm (Nat.ne_of_lt (Nat.lt_of_lt_of_le ((((G6_3.ext E7).keep K8 nin0).keep K10 nin0).keep K12 (ninS (Nat.ne_of_lt (Nat.lt_of_lt_of_le G6_3.lt (Nat.le_of_eq g7.symm))) nin0)).lt (Nat.le_of_eq g13.symm)))))).other W22 (Or.inl (Ne.symm (Nat.ne_of_lt (Nat.lt_of_lt_of_le G12_3.lt (Nat.le_of_eq g13.symm)))))).other W25 (Or.inr (slot_ne (Or.inl (hw _ (List.mem_of_getElem? (i := 109) rfl))) (Or.inl (hw _ (List.mem_of_getElem? (i := 27) rfl))) (by decide) (t := (.object "com/example/carmine/carmine/Node")) (t' := (.object "com/example/carmine/carmine/Node")) (by decide) (by decide)))).ext E26).keep K43 (ninS (Nat.ne_of_lt (Nat.lt_of_lt_of_le Fw25.lt (Nat.le_of_eq g26.symm))) nin0)).keep K44 (ninS (Nat.ne_of_lt (Nat.lt_of_lt_of_le Fw25.lt (Nat.le_of_eq g26.symm))) (ninS (Ne.symm (Nat.ne_of_lt (Nat.lt_of_lt_of_le ((((G6_3.ext E7).keep K8 nin0).keep K10 nin0).keep K12 (ninS (Nat.ne_of_lt (Nat.lt_of_lt_of_le G6_3.lt (Nat.le_of_eq g7.symm))) nin0)).lt (Nat.le_of_eq g13.symm)))) nin0))).keep K45 (ninS (Nat.ne_of_lt (Nat.lt_of_lt_of_le Fw25.lt (Nat.le_of_eq g26.symm))) (ninS (Ne.symm (Nat.ne_of_lt (Nat.lt_of_lt_of_le G12_3.lt (Nat.le_of_eq g13.symm)))) nin0))) (((((((G16_3.other W19 (Or.inl (Ne.symm (Nat.ne_of_lt (Nat.lt_of_lt_of_le ((((G6_3.ext E7).keep K8 nin0).keep K10 nin0).keep K12 (ninS (Nat.ne_of_lt (Nat.lt_of_lt_of_le G6_3.lt (Nat.le_of_eq g7.symm))) nin0)).lt (Nat.le_of_eq g13.symm)))))).other W22 (Or.inl (Ne.symm (Nat.ne_of_lt (Nat.lt_of_lt_of_le G12_3.lt (Nat.le_of_eq g13.symm)))))).other W25 (Or.inr (slot_ne (Or.inl (hw _ (List.mem_of_getElem? (i := 21) rfl))) (Or.inl (hw _ (List.mem_of_getElem? (i := 27) rfl))) (by decide) (t := .int) (t' := (.object "com/example/carmine/carmine/Node")) (by decide) (by decide)))).ext E26).keep K43 (ninS (Nat.ne_of_lt (Nat.lt_of_lt_of_le Fw25.lt (Nat.le_of_eq g26.symm))) nin0)).keep K44 (ninS (Nat.ne_of_lt (Nat.lt_of_lt_of_le Fw25.lt (Nat.le_of_eq g26.symm))) (ninS (Ne.symm (Nat.ne_of_lt (Nat.lt_of_lt_of_le ((((G6_3.ext E7).keep K8 nin0).keep K10 nin0).keep K12 (ninS (Nat.ne_of_lt (Nat.lt_of_lt_of_le G6_3.lt (Nat.le_of_eq g7.symm))) nin0)).lt (Nat.le_of_eq g13.symm)))) nin0))).keep K45 (ninS (Nat.ne_of_lt (Nat.lt_of_lt_of_le Fw25.lt (Nat.le_of_eq g26.symm))) (ninS (Ne.symm (Nat.ne_of_lt (Nat.lt_of_lt_of_le G12_3.lt (Nat.le_of_eq g13.symm)))) nin0))) ((((Fw25.ext E26).keep K43 (ninS (Nat.ne_of_lt (Nat.lt_of_lt_of_le Fw25.lt (Nat.le_of_eq g26.symm))) nin0)).keep K44 (ninS (Nat.ne_of_lt (Nat.lt_of_lt_of_le Fw25.lt (Nat.le_of_eq g26.symm))) (ninS (Ne.symm (Nat.ne_of_lt (Nat.lt_of_lt_of_le ((((G6_3.ext E7).keep K8 nin0).keep K10 nin0).keep K12 (ninS (Nat.ne_of_lt (Nat.lt_of_lt_of_le G6_3.lt (Nat.le_of_eq g7.symm))) nin0)).lt (Nat.le_of_eq g13.symm)))) nin0))).keep K45 (ninS (Nat.ne_of_lt (Nat.lt_of_lt_of_le Fw25.lt (Nat.le_of_eq g26.symm))) (ninS (Ne.symm (Nat.ne_of_lt (Nat.lt_of_lt_of_le G12_3.lt (Nat.le_of_eq g13.symm)))) nin0))) (((((((G16_0.wr W19).wr W22).wr W25).ext E26).keep K43).keep K44).keep K45) g_b13 G23_0 (Nat.ne_of_lt (Nat.lt_of_lt_of_le G6_3.lt (Nat.le_of_eq g7.symm))) (Nat.ne_of_lt (Nat.lt_of_lt_of_le ((((G6_3.ext E7).keep K8 nin0).keep K10 nin0).keep K12 (ninS (Nat.ne_of_lt (Nat.lt_of_lt_of_le G6_3.lt (Nat.le_of_eq g7.symm))) nin0)).lt (Nat.le_of_eq g13.symm))) (Nat.ne_of_lt (Nat.lt_of_lt_of_le G12_3.lt (Nat.le_of_eq g13.symm))) G45_0) hZ (hw _ (List.mem_of_getElem? (i := 52) rfl)) (hw _ (List.mem_of_getElem? (i := 51) rfl)) (by decide) (by decide)) (g := (mkF m 252 #[.val (.int p1), .val (.int p2), .val (.int (3 : Int32)), .val (.ref b1), .val (.ref b7), .val (.ref b13), .val (.ref b26), .val (.ref b13), .val (.int (1 : Int32)), .unset, .unset] [(.ref b26)])) rfl (by rw [hml]; rfl) (argsL := [(.ref b26)]) (rest := []) (lenOf pd0_6 rfl) rfl (by show 2 * 0 + _ ≤ _; exact Nat.le_of_eq rfl) (hb hby at_252) (fun _ _ => ⟨rfl, e49, (by decide : 9 + 1 ≤ _), (by decide : 23 + 6 ≤ _)⟩)
    dsimp only [Pt.U, Pt.locs, Pt.cells, Pt.slots] at X50 l50 y50 z50 st50 hQ50
    subst l50 y50 z50
    obtain ⟨rfl, N50q, K50, G50_0, G50_1, G50_2⟩ := hQ50
    have N50 := Fr.app N47 N50q
    refine go1 st50 ?_
    show Go p.tables e below T50 (mkF m 255 #[.val (.int p1), .val (.int p2), .val (.int (3 : Int32)), .val (.ref b1), .val (.ref b7), .val (.ref b13), .val (.ref b26), .val (.ref b13), .val (.int (1 : Int32)), .unset, .unset] [(.ref b7)]) _
    refine go1 (fun _ => XS.astore X50.here hx rfl (hb hby at_255) rfl rfl (l' := #[.val (.int p1), .val (.int p2), .val (.int (3 : Int32)), .val (.ref b1), .val (.ref b7), .val (.ref b13), .val (.ref b26), .val (.ref b13), .val (.int (1 : Int32)), .val (.ref b7), .unset]) rfl) ?_
    show Go p.tables e below T50 (mkF m 257 #[.val (.int p1), .val (.int p2), .val (.int (3 : Int32)), .val (.ref b1), .val (.ref b7), .val (.ref b13), .val (.ref b26), .val (.ref b13), .val (.int (1 : Int32)), .val (.ref b7), .unset] []) _
    refine go1 (fun _ => XS.iloadN X50.here hx rfl (hb hby at_257) rfl) ?_
    show Go p.tables e below T50 (mkF m 258 #[.val (.int p1), .val (.int p2), .val (.int (3 : Int32)), .val (.ref b1), .val (.ref b7), .val (.ref b13), .val (.ref b26), .val (.ref b13), .val (.int (1 : Int32)), .val (.ref b7), .unset] [(.int (3 : Int32))]) _
    refine go1 (fun _ => XS.ifYes X50.here hx rfl (pc0 := 258) (pc' := 276) rfl (hb hby at_258) rfl ((if0 _ _).trans (feq (by decide : ¬ ((3 : Int32) = (0 : Int32)))).2) (by decide) (by decide)) ?_
    show Go p.tables e below T50 (mkF m 276 #[.val (.int p1), .val (.int p2), .val (.int (3 : Int32)), .val (.ref b1), .val (.ref b7), .val (.ref b13), .val (.ref b26), .val (.ref b13), .val (.int (1 : Int32)), .val (.ref b7), .unset] []) _
    refine go1 (fun _ => XS.iloadN X50.here hx rfl (hb hby at_276) rfl) ?_
    show Go p.tables e below T50 (mkF m 277 #[.val (.int p1), .val (.int p2), .val (.int (3 : Int32)), .val (.ref b1), .val (.ref b7), .val (.ref b13), .val (.ref b26), .val (.ref b13), .val (.int (1 : Int32)), .val (.ref b7), .unset] [(.int (3 : Int32))]) _
    refine go1 (fun _ => XS.iconst X50.here hx rfl (hb hby at_277)) ?_
    show Go p.tables e below T50 (mkF m 278 #[.val (.int p1), .val (.int p2), .val (.int (3 : Int32)), .val (.ref b1), .val (.ref b7), .val (.ref b13), .val (.ref b26), .val (.ref b13), .val (.int (1 : Int32)), .val (.ref b7), .unset] [(.int (1 : Int32)), (.int (3 : Int32))]) _
    refine go1 (fun _ => XS.icmpYes X50.here hx rfl (pc0 := 278) (pc' := 297) rfl (hb hby at_278) rfl (feq (by decide : ¬ ((3 : Int32) = (1 : Int32)))).2 (by decide) (by decide)) ?_
    show Go p.tables e below T50 (mkF m 297 #[.val (.int p1), .val (.int p2), .val (.int (3 : Int32)), .val (.ref b1), .val (.ref b7), .val (.ref b13), .val (.ref b26), .val (.ref b13), .val (.int (1 : Int32)), .val (.ref b7), .unset] []) _
    refine go1 (fun _ => XS.iloadN X50.here hx rfl (hb hby at_297) rfl) ?_
    show Go p.tables e below T50 (mkF m 298 #[.val (.int p1), .val (.int p2), .val (.int (3 : Int32)), .val (.ref b1), .val (.ref b7), .val (.ref b13), .val (.ref b26), .val (.ref b13), .val (.int (1 : Int32)), .val (.ref b7), .unset] [(.int (3 : Int32))]) _
    refine go1 (fun _ => XS.iconst X50.here hx rfl (hb hby at_298)) ?_
    show Go p.tables e below T50 (mkF m 299 #[.val (.int p1), .val (.int p2), .val (.int (3 : Int32)), .val (.ref b1), .val (.ref b7), .val (.ref b13), .val (.ref b26), .val (.ref b13), .val (.int (1 : Int32)), .val (.ref b7), .unset] [(.int (2 : Int32)), (.int (3 : Int32))]) _
    refine go1 (fun _ => XS.icmpYes X50.here hx rfl (pc0 := 299) (pc' := 334) rfl (hb hby at_299) rfl (feq (by decide : ¬ ((3 : Int32) = (2 : Int32)))).2 (by decide) (by decide)) ?_
    show Go p.tables e below T50 (mkF m 334 #[.val (.int p1), .val (.int p2), .val (.int (3 : Int32)), .val (.ref b1), .val (.ref b7), .val (.ref b13), .val (.ref b26), .val (.ref b13), .val (.int (1 : Int32)), .val (.ref b7), .unset] []) _
    refine go1 (fun _ => XS.aload X50.here hx rfl (hb hby at_334) rfl rfl) ?_
    show Go p.tables e below T50 (mkF m 336 #[.val (.int p1), .val (.int p2), .val (.int (3 : Int32)), .val (.ref b1), .val (.ref b7), .val (.ref b13), .val (.ref b26), .val (.ref b13), .val (.int (1 : Int32)), .val (.ref b7), .unset] [(.ref b7)]) _
    refine go1 (fun _ => XS.aload X50.here hx rfl (hb hby at_336) rfl rfl) ?_
    show Go p.tables e below T50 (mkF m 338 #[.val (.int p1), .val (.int p2), .val (.int (3 : Int32)), .val (.ref b1), .val (.ref b7), .val (.ref b13), .val (.ref b26), .val (.ref b13), .val (.int (1 : Int32)), .val (.ref b7), .unset] [(.ref b7), (.ref b7)]) _
    refine go1 (fun _ => Jvm.RoadKit.acmp (g := (mkF m 338 #[.val (.int p1), .val (.int p2), .val (.int (3 : Int32)), .val (.ref b1), .val (.ref b7), .val (.ref b13), .val (.ref b26), .val (.ref b13), .val (.int (1 : Int32)), .val (.ref b7), .unset] [(.ref b7), (.ref b7)])) X50 hx rfl rfl rfl (pc0 := 338) (pc' := 341) (same := true) rfl (hb hby at_338) rfl (decide_eq_true rfl) (by decide) (by decide)) ?_
    show Go p.tables e below T50 (mkF m 341 #[.val (.int p1), .val (.int p2), .val (.int (3 : Int32)), .val (.ref b1), .val (.ref b7), .val (.ref b13), .val (.ref b26), .val (.ref b13), .val (.int (1 : Int32)), .val (.ref b7), .unset] []) _
    refine go1 (fun _ => XS.aload X50.here hx rfl (hb hby at_341) rfl rfl) ?_
    show Go p.tables e below T50 (mkF m 343 #[.val (.int p1), .val (.int p2), .val (.int (3 : Int32)), .val (.ref b1), .val (.ref b7), .val (.ref b13), .val (.ref b26), .val (.ref b13), .val (.int (1 : Int32)), .val (.ref b7), .unset] [(.ref b7)]) _
    obtain ⟨T51, X51, e51, st51⟩ := getF X50 hx hZ hown (host := "") (Or.inl (hw _ (List.mem_of_getElem? (i := 111) rfl))) Via.refl rfl G50_1 (g := (mkF m 343 #[.val (.int p1), .val (.int p2), .val (.int (3 : Int32)), .val (.ref b1), .val (.ref b7), .val (.ref b13), .val (.ref b26), .val (.ref b13), .val (.int (1 : Int32)), .val (.ref b7), .unset] [(.ref b7)])) rfl rfl (hb hby at_343)
    refine go1 st51 ?_
    show Go p.tables e below T51 (mkF m 346 #[.val (.int p1), .val (.int p2), .val (.int (3 : Int32)), .val (.ref b1), .val (.ref b7), .val (.ref b13), .val (.ref b26), .val (.ref b13), .val (.int (1 : Int32)), .val (.ref b7), .unset] [(.ref b1)]) _
    refine go1 (fun _ => XS.aloadN X51.here hx rfl (hb hby at_346) rfl rfl) ?_
    show Go p.tables e below T51 (mkF m 347 #[.val (.int p1), .val (.int p2), .val (.int (3 : Int32)), .val (.ref b1), .val (.ref b7), .val (.ref b13), .val (.ref b26), .val (.ref b13), .val (.int (1 : Int32)), .val (.ref b7), .unset] [(.ref b1), (.ref b1)]) _
    refine go1 (fun _ => Jvm.RoadKit.acmp (g := (mkF m 347 #[.val (.int p1), .val (.int p2), .val (.int (3 : Int32)), .val (.ref b1), .val (.ref b7), .val (.ref b13), .val (.ref b26), .val (.ref b13), .val (.int (1 : Int32)), .val (.ref b7), .unset] [(.ref b1), (.ref b1)])) X51 hx rfl rfl rfl (pc0 := 347) (pc' := 350) (same := true) rfl (hb hby at_347) rfl (decide_eq_true rfl) (by decide) (by decide)) ?_
    show Go p.tables e below T51 (mkF m 350 #[.val (.int p1), .val (.int p2), .val (.int (3 : Int32)), .val (.ref b1), .val (.ref b7), .val (.ref b13), .val (.ref b26), .val (.ref b13), .val (.int (1 : Int32)), .val (.ref b7), .unset] []) _
    refine go1 (fun _ => XS.aload X51.here hx rfl (hb hby at_350) rfl rfl) ?_
    show Go p.tables e below T51 (mkF m 352 #[.val (.int p1), .val (.int p2), .val (.int (3 : Int32)), .val (.ref b1), .val (.ref b7), .val (.ref b13), .val (.ref b26), .val (.ref b13), .val (.int (1 : Int32)), .val (.ref b7), .unset] [(.ref b7)]) _
    obtain ⟨T52, X52, e52, st52⟩ := getF X51 hx hZ hown (host := "") (Or.inl (hw _ (List.mem_of_getElem? (i := 26) rfl))) Via.refl e51 G50_2 (g := (mkF m 352 #[.val (.int p1), .val (.int p2), .val (.int (3 : Int32)), .val (.ref b1), .val (.ref b7), .val (.ref b13), .val (.ref b26), .val (.ref b13), .val (.int (1 : Int32)), .val (.ref b7), .unset] [(.ref b7)])) rfl rfl (hb hby at_352)
    refine go1 st52 ?_
    show Go p.tables e below T52 (mkF m 355 #[.val (.int p1), .val (.int p2), .val (.int (3 : Int32)), .val (.ref b1), .val (.ref b7), .val (.ref b13), .val (.ref b26), .val (.ref b13), .val (.int (1 : Int32)), .val (.ref b7), .unset] [(.ref b13)]) _
    refine go1 (fun _ => XS.aload X52.here hx rfl (hb hby at_355) rfl rfl) ?_
    show Go p.tables e below T52 (mkF m 357 #[.val (.int p1), .val (.int p2), .val (.int (3 : Int32)), .val (.ref b1), .val (.ref b7), .val (.ref b13), .val (.ref b26), .val (.ref b13), .val (.int (1 : Int32)), .val (.ref b7), .unset] [(.ref b13), (.ref b13)]) _
    refine go1 (fun _ => Jvm.RoadKit.acmp (g := (mkF m 357 #[.val (.int p1), .val (.int p2), .val (.int (3 : Int32)), .val (.ref b1), .val (.ref b7), .val (.ref b13), .val (.ref b26), .val (.ref b13), .val (.int (1 : Int32)), .val (.ref b7), .unset] [(.ref b13), (.ref b13)])) X52 hx rfl rfl rfl (pc0 := 357) (pc' := 360) (same := true) rfl (hb hby at_357) rfl (decide_eq_true rfl) (by decide) (by decide)) ?_
    show Go p.tables e below T52 (mkF m 360 #[.val (.int p1), .val (.int p2), .val (.int (3 : Int32)), .val (.ref b1), .val (.ref b7), .val (.ref b13), .val (.ref b26), .val (.ref b13), .val (.int (1 : Int32)), .val (.ref b7), .unset] []) _
    refine go1 (fun _ => XS.iconst X52.here hx rfl (hb hby at_360)) ?_
    show Go p.tables e below T52 (mkF m 361 #[.val (.int p1), .val (.int p2), .val (.int (3 : Int32)), .val (.ref b1), .val (.ref b7), .val (.ref b13), .val (.ref b26), .val (.ref b13), .val (.int (1 : Int32)), .val (.ref b7), .unset] [(.int (1 : Int32))]) _
    refine go1 (fun _ => XS.goto X52.here hx rfl (pc0 := 361) (pc' := 365) rfl (hb hby at_361) (by decide) (by decide)) ?_
    show Go p.tables e below T52 (mkF m 365 #[.val (.int p1), .val (.int p2), .val (.int (3 : Int32)), .val (.ref b1), .val (.ref b7), .val (.ref b13), .val (.ref b26), .val (.ref b13), .val (.int (1 : Int32)), .val (.ref b7), .unset] [(.int (1 : Int32))]) _
    refine go1 (fun _ => XS.istore X52.here hx rfl (hb hby at_365) rfl (l' := #[.val (.int p1), .val (.int p2), .val (.int (3 : Int32)), .val (.ref b1), .val (.ref b7), .val (.ref b13), .val (.ref b26), .val (.ref b13), .val (.int (1 : Int32)), .val (.ref b7), .val (.int (1 : Int32))]) rfl) ?_
    show Go p.tables e below T52 (mkF m 367 #[.val (.int p1), .val (.int p2), .val (.int (3 : Int32)), .val (.ref b1), .val (.ref b7), .val (.ref b13), .val (.ref b26), .val (.ref b13), .val (.int (1 : Int32)), .val (.ref b7), .val (.int (1 : Int32))] []) _
    refine go1 (fun _ => XS.iload X52.here hx rfl (hb hby at_367) rfl) ?_
    show Go p.tables e below T52 (mkF m 369 #[.val (.int p1), .val (.int p2), .val (.int (3 : Int32)), .val (.ref b1), .val (.ref b7), .val (.ref b13), .val (.ref b26), .val (.ref b13), .val (.int (1 : Int32)), .val (.ref b7), .val (.int (1 : Int32))] [(.int (1 : Int32))]) _
    refine go1 (fun _ => XS.ifNo X52.here hx rfl (hb hby at_369) rfl ((if0 _ _).trans (feq (by decide : ¬ ((1 : Int32) = (0 : Int32)))).1)) ?_
    show Go p.tables e below T52 (mkF m 372 #[.val (.int p1), .val (.int p2), .val (.int (3 : Int32)), .val (.ref b1), .val (.ref b7), .val (.ref b13), .val (.ref b26), .val (.ref b13), .val (.int (1 : Int32)), .val (.ref b7), .val (.int (1 : Int32))] []) _
    refine go1 (fun _ => XS.iload X52.here hx rfl (hb hby at_372) rfl) ?_
    show Go p.tables e below T52 (mkF m 374 #[.val (.int p1), .val (.int p2), .val (.int (3 : Int32)), .val (.ref b1), .val (.ref b7), .val (.ref b13), .val (.ref b26), .val (.ref b13), .val (.int (1 : Int32)), .val (.ref b7), .val (.int (1 : Int32))] [(.int (1 : Int32))]) _
    refine go1 (fun _ => XS.ifNo X52.here hx rfl (hb hby at_374) rfl ((if0 _ _).trans (feq (by decide : ¬ ((1 : Int32) = (0 : Int32)))).1)) ?_
    show Go p.tables e below T52 (mkF m 377 #[.val (.int p1), .val (.int p2), .val (.int (3 : Int32)), .val (.ref b1), .val (.ref b7), .val (.ref b13), .val (.ref b26), .val (.ref b13), .val (.int (1 : Int32)), .val (.ref b7), .val (.int (1 : Int32))] []) _
    refine go1 (fun _ => XS.iconst X52.here hx rfl (hb hby at_377)) ?_
    show Go p.tables e below T52 (mkF m 378 #[.val (.int p1), .val (.int p2), .val (.int (3 : Int32)), .val (.ref b1), .val (.ref b7), .val (.ref b13), .val (.ref b26), .val (.ref b13), .val (.int (1 : Int32)), .val (.ref b7), .val (.int (1 : Int32))] [(.int (1 : Int32))]) _
    refine go1 (fun _ => XS.goto X52.here hx rfl (pc0 := 378) (pc' := 382) rfl (hb hby at_378) (by decide) (by decide)) ?_
    show Go p.tables e below T52 (mkF m 382 #[.val (.int p1), .val (.int p2), .val (.int (3 : Int32)), .val (.ref b1), .val (.ref b7), .val (.ref b13), .val (.ref b26), .val (.ref b13), .val (.int (1 : Int32)), .val (.ref b7), .val (.int (1 : Int32))] [(.int (1 : Int32))]) _
    refine goR X52 (BodyLoose.notSynchronized Bd) (v := (some (.int (1 : Int32)))) (fun h => by rw [Bd.returns] at h; cases h) (Q0 Z p1 p2 a_cache h0 n0) (fun fs hr => retN X52 hx (t := .boolean) Bd.returns (by simp) (hb hby at_382) hr) (by decide) (by decide) ?_
    show Q0 Z p1 p2 a_cache h0 n0 _ T52.heap _
    rw [e52]
    exact ⟨rfl, N50⟩
set_option maxRecDepth 65536 in
set_option maxHeartbeats 40000000 in
theorem comes_1 {Post : Tables → Env → Array Value → State → Outcome → State → Prop} (hpost : ∀ tb e args s v u, (limb_1_1.after args s (.returned v) u = true ∧ limb_1_2.after args s (.returned v) u = true ∧ True) → FrameEnd s (.returned v) u (Jvm.fieldLocs frame_1_writes args s ++ Jvm.arrayLocs frame_1_arrays args s ++ Jvm.staticLocs frame_1_statics s) 24 128 → Post tb e args s (.returned v) u) :
    ArmFor flags0 classFile x code maxLocals ret World_1 tables_1 room_1 Calls_1 rest_1 Pre_1 Post := by
  intro l hfl _ _ p e ha hc hk s m args below hf hA hF happ hP
  obtain ⟨hcalls, hrest, hpre⟩ := hP
  obtain ⟨-, -, -, hnamed, -, -, -, hat⟩ := (Spec.applies_iff hf).mp happ
  obtain ⟨hg, hn⟩ := and_e (Cond.before_iff.mp (show (Jvm.Cond.and given_1 narrow_1).before args s = true from hpre))
  obtain ⟨gc, q0⟩ := and_e hg
  obtain ⟨ga0, q1⟩ := and_e q0
  have ga1 := q1
  obtain ⟨w0, w1, rfl⟩ : ∃ w0 w1 : Value, args = #[w0, w1] := by
    have hs : args.size = 2 := by simpa [Cond.value, given_1] using gc
    obtain ⟨L⟩ := args
    match L, hs with
    | [w0, w1], _ => exact ⟨w0, w1, rfl⟩
  have hw := fun d (hd : d ∈ tables_1) => atoms_spec (ws := Jvm.Cond.code x code maxLocals ret :: tables_1) hat d (List.mem_cons_of_mem _ hd)
  have hfit : Fit s := fun {y c} hc i hi => by
    obtain ⟨ha, rfl⟩ := Array.getElem?_eq_some_iff.mp hc
    have q := List.all_eq_true.mp ((Array.all_eq_true_iff_forall_mem.mp hF) _ (Array.getElem_mem ha)) i (List.mem_range.mpr hi)
    simpa [Array.getElem?_eq_getElem hi] using q
  obtain ⟨hsets, hown0⟩ := atoms_of _ (rest_1_c_eq ▸ (show rest_1_c.before _ s = true from hrest))
  obtain ⟨i0, ei0⟩ := is_v ga0
  obtain rfl : w0 = (.int i0) := Option.some.inj ei0
  obtain ⟨i1, ei1⟩ := is_v ga1
  obtain rfl : w1 = (.int i1) := Option.some.inj ei1
  obtain ⟨a_cache, ev_a_cache⟩ := exa_v (Cond.before_iff.mp (hsets _ (List.mem_of_getElem? (i := 5) rfl)))
  have S_a_cache := Sta.start ev_a_cache (Or.inr ⟨(hw _ (List.mem_of_getElem? (i := 8) rfl)), (hsets _ (List.mem_of_getElem? (i := 2) rfl))⟩)
  have ES_a_cache := Exa.start ev_a_cache (Cond.before_iff.mp (hsets _ (List.mem_of_getElem? (i := 5) rfl)))
  have S_a_high := Sta.start (eqv_i (Term.int_eval (127 : Int32)) (Cond.before_iff.mp (hsets _ (List.mem_of_getElem? (i := 3) rfl)))) (Or.inl (hsets _ (List.mem_of_getElem? (i := 1) rfl)))
  have BX_a_cache : ∃ cB : Cell, Bxs s a_cache cB "java/lang/Integer" "I" (256 : Int32) (fun j => .int (j - (128 : Int32))) := by
    obtain ⟨cB, ArB⟩ := Arr.start ev_a_cache (Cond.before_iff.mp (hsets _ (List.mem_of_getElem? (i := 4) rfl)))
    have q := lenS ev_a_cache ArB (eqv_i (Term.int_eval (256 : Int32)) (Cond.before_iff.mp (hsets _ (List.mem_of_getElem? (i := 6) rfl))))
    refine ⟨cB, Bxs.start (fun idx => ?_) ArB q.1 q.2.1 (by decide) (Cond.before_iff.mp (hsets _ (List.mem_of_getElem? (i := 7) rfl))) (fun X j hj hv => ?_)⟩
    · have := ev_a_cache; simpa [Term.eval] using this
    · exact eqv_i (show (Term.sub (.index 0) (.int (128 : Int32))).eval _ s none [j.toNatClampNeg] s = some (.int (j - (128 : Int32))) from Term.sub_int (idx_at hj) (Term.int_eval (128 : Int32))) hv
  obtain ⟨n, o, h1, h2, h3, _, L, rfl, ⟨rfl, N⟩, hq⟩ := rm0 l s _ hw tables_1 i0 i1 a_cache s.heap s.heap.size (Nat.le_refl _) (Old.start s) S_a_cache ES_a_cache S_a_high BX_a_cache p e ha hc hk s m _ below hf ((Spec.applies_iff_loose hf).mp happ).1 ⟨rfl, State.Warmed39.refl s, rfl⟩ trivial
  refine ⟨n, _, h1, h2, h3, hpost _ _ _ _ _ _ ⟨Cond.after_iff.mpr rfl, Cond.after_iff.mpr (eq_i res_at (Term.int_eval (1)) rfl), trivial⟩ ⟨hq.1, hq.2.1, (hq.2.2.sift fun y hy => Or.inr (N y hy)).mono (by decide) (by decide)⟩⟩
theorem main_1_1 : Claimed_1_1 := comes_1 fun _ _ _ _ _ _ h hF => ⟨h.1, hF⟩
theorem main_1_2 : Claimed_1_2 := comes_1 fun _ _ _ _ _ _ h hF => ⟨h.2.1, hF⟩
end Jvm.Pilot.@@N@@
namespace Jvm.Pilot.@@N@@
open Jvm Jvm.ClassFile Sem Op Lib Jvm.Free Jvm.Stand Jvm.Pilot.@@N@@.Jvm.D
/-! MADE BY PROGRAM (witnessworld.py) out of the Statement's table words and the real class files: 20 classes; the members and pool entries that the words name. The judged class is class 1, her method 2. -/
namespace start1
open Jvm.ClassFile
def u (s : String) : CpInfo := .utf8 (stringToUtf16 s)
/-- a pool by its gaps: so many unusable entries, then the entry; so many at the end -/
def gap : Nat → List CpInfo → List CpInfo
  | 0, r => r
  | n + 1, r => .unusable :: gap n r
def poolList (es : List (Nat × CpInfo)) (last : Nat) : List CpInfo := es.foldr (fun e r => gap e.1 (e.2 :: r)) (gap last [])
def pool (es : List (Nat × CpInfo)) (last : Nat) : Array CpInfo := ⟨poolList es last⟩
def fileOf (pool : Array CpInfo) (this : Nat) (attrs : Array Attribute := #[]) (ms : Array MethodInfo := #[]) (fl : Nat := 33) (sup : Nat := 0) (ifs : Array Nat := #[]) (fds : Array FieldInfo := #[]) : ClassFile where
  minorVersion := 0
  majorVersion := 65
  constantPool := pool
  accessFlags := fl
  thisClass := this
  superClass := sup
  interfaces := ifs
  fields := fds
  methods := ms
  attributes := attrs
def plain (name : String) (sup : Option ClassId) : Class where
  name := name
  kind := .ordinary
  loader := none
  accessFlags := 33
  super := sup
  interfaces := #[]
  cf := none
  fields := #[]
  methods := #[]
  instanceTypes := #[]
  staticTypes := #[]
  resolved := #[]
  callSites := []
  init := .initialized
  statics := none
  mirror := none

def pool0 : Array CpInfo := pool [(5, u "<init>"), (0, u "()V"), (1, .class_ 10), (1, u "java/lang/Object")] 113

def k0c0 : Code := { maxStack := 0, maxLocals := 1, code := object_method_1_code, exceptionTable := #[], attributes := #[] }
def k0m0 : Method := { name := "<init>", desc := "()V", sig := { parameters := [], returnType := none }, accessFlags := 1, code := some k0c0 }
/-- java/lang/Object -/
def k0 : Class := { plain "java/lang/Object" none with
  accessFlags := 33
  interfaces := #[]
  cf := some (fileOf pool0 8 #[] #[{ accessFlags := 1, nameIndex := 5, descriptorIndex := 6, attributes := #[] }] 33 0 #[] #[])
  fields := #[]
  methods := #[k0m0]
  instanceTypes := #[]
  staticTypes := #[]
  resolved := Array.replicate 124 none
  statics := none }

def pool1 : Array CpInfo := pool [(2, .class_ 4), (0, .nameAndType 5 6), (0, u "java/lang/Object"), (0, u "<init>"), (0, u "()V"), (0, .class_ 8), (0, u "com/example/carmine/carmine/Node"), (0, .methodref 10 11), (0, .class_ 12), (0, .nameAndType 13 14), (0, u "java/lang/Integer"), (0, u "valueOf"), (0, u "(I)Ljava/lang/Integer;"), (0, .methodref 7 16), (0, .nameAndType 5 17), (0, u "(Ljava/lang/Object;Ljava/lang/Object;)V"), (0, .methodref 19 20), (0, .class_ 21), (0, .nameAndType 22 23), (0, u "com/example/carmine/carmine/LinksAddPinLaw"), (0, u "pick"), (0, u "(ILcom/example/carmine/carmine/Node;Lcom/example/carmine/carmine/Node;Lcom/example/carmine/carmine/Node;)Lcom/example/carmine/carmine/Node;"), (0, .fieldref 7 25), (0, .nameAndType 26 27), (0, u "right"), (0, u "Lcom/example/carmine/carmine/Node;"), (0, .class_ 29), (0, u "com/example/carmine/carmine/RedBlack$Links"), (0, .methodref 28 3), (0, .methodref 28 32), (0, .nameAndType 33 34), (0, u "add"), (0, u "(Lcom/example/carmine/carmine/Node;)V"), (0, .methodref 28 36), (0, .nameAndType 37 38), (0, u "last"), (0, u "()Lcom/example/carmine/carmine/Node;"), (0, .methodref 28 40), (0, .nameAndType 41 42), (0, u "size"), (0, u "()I"), (0, .methodref 44 45), (0, .class_ 46), (0, .nameAndType 47 48), (0, u "com/example/carmine/carmine/RedBlack"), (0, u "build"), (0, u "(Lcom/example/carmine/carmine/RedBlack$Links;)Lcom/example/carmine/carmine/Node;"), (0, .fieldref 7 50), (0, .nameAndType 51 27), (0, u "left"), (5, u "law"), (0, u "(II)Z")] 4

def k1m0 : Method := { name := "<init>", desc := "()V", sig := { parameters := [], returnType := none }, accessFlags := 2, code := none }
def k1c1 : Code := { maxStack := 2, maxLocals := 5, code := method_2_code, exceptionTable := #[], attributes := #[] }
def k1m1 : Method := { name := "pick", desc := "(ILcom/example/carmine/carmine/Node;Lcom/example/carmine/carmine/Node;Lcom/example/carmine/carmine/Node;)Lcom/example/carmine/carmine/Node;", sig := { parameters := [.int, (.object "com/example/carmine/carmine/Node"), (.object "com/example/carmine/carmine/Node"), (.object "com/example/carmine/carmine/Node")], returnType := some (.object "com/example/carmine/carmine/Node") }, accessFlags := 10, code := some k1c1 }
def k1c2 : Code := { maxStack := 5, maxLocals := 11, code := code, exceptionTable := #[], attributes := #[] }
def k1m2 : Method := { name := "law", desc := "(II)Z", sig := { parameters := [.int, .int], returnType := some .boolean }, accessFlags := 9, code := some k1c2 }
/-- com/example/carmine/carmine/LinksAddPinLaw -/
def k1 : Class := { plain "com/example/carmine/carmine/LinksAddPinLaw" (some 0) with
  accessFlags := 49
  interfaces := #[]
  cf := some (fileOf pool1 19 #[] #[{ accessFlags := 2, nameIndex := 5, descriptorIndex := 6, attributes := #[] }, { accessFlags := 10, nameIndex := 22, descriptorIndex := 23, attributes := #[] }, { accessFlags := 9, nameIndex := 57, descriptorIndex := 58, attributes := #[] }] 49 2 #[] #[])
  fields := #[]
  methods := #[k1m0, k1m1, k1m2]
  instanceTypes := #[]
  staticTypes := #[]
  resolved := Array.replicate 63 none
  statics := none }

def pool2 : Array CpInfo := pool [(23, .class_ 25), (1, u "java/util/Map$Entry"), (6, .class_ 34), (1, u "java/util/Map"), (34, .class_ 70), (0, u "java/lang/Object")] 107

/-- java/util/Map$Entry -/
def k2 : Class := { plain "java/util/Map$Entry" (some 0) with
  accessFlags := 1537
  interfaces := #[]
  cf := some (fileOf pool2 23 #[.nestHost 32] #[] 1537 69 #[] #[])
  fields := #[]
  methods := #[]
  instanceTypes := #[]
  staticTypes := #[]
  resolved := Array.replicate 178 none
  statics := none }

def pool3 : Array CpInfo := pool [(1, .methodref 2 3), (0, .class_ 4), (0, .nameAndType 5 6), (0, u "java/lang/Object"), (0, u "<init>"), (0, u "()V"), (0, .fieldref 8 9), (0, .class_ 10), (0, .nameAndType 11 12), (0, u "com/example/carmine/carmine/Node"), (0, u "key"), (0, u "Ljava/lang/Object;"), (0, .fieldref 8 14), (0, .nameAndType 15 12), (0, u "value"), (0, .fieldref 8 17), (0, .nameAndType 18 19), (0, u "sizeAndColours"), (0, u "I"), (2, u "left"), (0, u "Lcom/example/carmine/carmine/Node;"), (2, u "right"), (8, .integer 2147483648), (0, .integer 1073741824), (6, .class_ 44), (0, u "java/util/Map$Entry"), (27, u "MAX_SIZE"), (1, u "LEFT_RED"), (0, u "RIGHT_RED"), (4, u "(Ljava/lang/Object;Ljava/lang/Object;)V"), (18, u "setColoursAndSize"), (0, u "(ZZI)V")] 32

def k3c0 : Code := { maxStack := 2, maxLocals := 3, code := prog_7_method_1_code, exceptionTable := #[], attributes := #[] }
def k3m0 : Method := { name := "<init>", desc := "(Ljava/lang/Object;Ljava/lang/Object;)V", sig := { parameters := [(.object "java/lang/Object"), (.object "java/lang/Object")], returnType := none }, accessFlags := 0, code := some k3c0 }
def k3c1 : Code := { maxStack := 3, maxLocals := 4, code := prog_7_method_11_code, exceptionTable := #[], attributes := #[] }
def k3m1 : Method := { name := "setColoursAndSize", desc := "(ZZI)V", sig := { parameters := [.boolean, .boolean, .int], returnType := none }, accessFlags := 0, code := some k3c1 }
/-- com/example/carmine/carmine/Node -/
def k3 : Class := { plain "com/example/carmine/carmine/Node" (some 0) with
  accessFlags := 32
  interfaces := #[2]
  cf := some (fileOf pool3 8 #[] #[{ accessFlags := 0, nameIndex := 5, descriptorIndex := 80, attributes := #[] }, { accessFlags := 0, nameIndex := 99, descriptorIndex := 100, attributes := #[] }] 32 2 #[43] #[{ accessFlags := 24, nameIndex := 72, descriptorIndex := 19, attributes := #[] }, { accessFlags := 26, nameIndex := 74, descriptorIndex := 19, attributes := #[] }, { accessFlags := 26, nameIndex := 75, descriptorIndex := 19, attributes := #[] }, { accessFlags := 0, nameIndex := 11, descriptorIndex := 12, attributes := #[] }, { accessFlags := 0, nameIndex := 15, descriptorIndex := 12, attributes := #[] }, { accessFlags := 0, nameIndex := 22, descriptorIndex := 23, attributes := #[] }, { accessFlags := 0, nameIndex := 26, descriptorIndex := 23, attributes := #[] }, { accessFlags := 2, nameIndex := 18, descriptorIndex := 19, attributes := #[] }])
  fields := #[{ name := "MAX_SIZE", type := .int, accessFlags := 24, slot := 0, constantValue := 0 }, { name := "LEFT_RED", type := .int, accessFlags := 26, slot := 1, constantValue := 0 }, { name := "RIGHT_RED", type := .int, accessFlags := 26, slot := 2, constantValue := 0 }, { name := "key", type := (.object "java/lang/Object"), accessFlags := 0, slot := 0, constantValue := 0 }, { name := "value", type := (.object "java/lang/Object"), accessFlags := 0, slot := 1, constantValue := 0 }, { name := "left", type := (.object "com/example/carmine/carmine/Node"), accessFlags := 0, slot := 2, constantValue := 0 }, { name := "right", type := (.object "com/example/carmine/carmine/Node"), accessFlags := 0, slot := 3, constantValue := 0 }, { name := "sizeAndColours", type := .int, accessFlags := 2, slot := 4, constantValue := 0 }]
  methods := #[k3m0, k3m1]
  instanceTypes := #[(.object "java/lang/Object"), (.object "java/lang/Object"), (.object "com/example/carmine/carmine/Node"), (.object "com/example/carmine/carmine/Node"), .int]
  staticTypes := #[.int, .int, .int]
  resolved := Array.replicate 133 none
  statics := none }

def pool4 : Array CpInfo := pool [(1, .class_ 2), (0, u "java/io/Serializable"), (0, .class_ 4), (0, u "java/lang/Object")] 2

/-- java/io/Serializable -/
def k4 : Class := { plain "java/io/Serializable" (some 0) with
  accessFlags := 1537
  interfaces := #[]
  cf := some (fileOf pool4 1 #[] #[] 1537 3 #[] #[])
  fields := #[]
  methods := #[]
  instanceTypes := #[]
  staticTypes := #[]
  resolved := Array.replicate 7 none
  statics := none }

def pool5 : Array CpInfo := pool [(1, .methodref 2 3), (0, .class_ 4), (0, .nameAndType 5 6), (0, u "java/lang/Object"), (0, u "<init>"), (0, u "()V"), (1, .class_ 10), (1, u "java/lang/Number"), (2, .class_ 14), (0, u "java/io/Serializable"), (0, u "serialVersionUID"), (0, u "J")] 20

def k5c0 : Code := { maxStack := 1, maxLocals := 1, code := jdk_18_method_1_code, exceptionTable := #[], attributes := #[] }
def k5m0 : Method := { name := "<init>", desc := "()V", sig := { parameters := [], returnType := none }, accessFlags := 1, code := some k5c0 }
/-- java/lang/Number -/
def k5 : Class := { plain "java/lang/Number" (some 0) with
  accessFlags := 1057
  interfaces := #[4]
  cf := some (fileOf pool5 8 #[] #[{ accessFlags := 1, nameIndex := 5, descriptorIndex := 6, attributes := #[] }] 1057 2 #[13] #[{ accessFlags := 26, nameIndex := 15, descriptorIndex := 16, attributes := #[] }])
  fields := #[{ name := "serialVersionUID", type := .long, accessFlags := 26, slot := 0, constantValue := 0 }]
  methods := #[k5m0]
  instanceTypes := #[]
  staticTypes := #[.long]
  resolved := Array.replicate 37 none
  statics := none }

def pool6 : Array CpInfo := pool [(1, .class_ 2), (0, u "java/lang/Comparable"), (0, .class_ 4), (0, u "java/lang/Object")] 7

/-- java/lang/Comparable -/
def k6 : Class := { plain "java/lang/Comparable" (some 0) with
  accessFlags := 1537
  interfaces := #[]
  cf := some (fileOf pool6 1 #[] #[] 1537 3 #[] #[])
  fields := #[]
  methods := #[]
  instanceTypes := #[]
  staticTypes := #[]
  resolved := Array.replicate 12 none
  statics := none }

def pool7 : Array CpInfo := pool [(1, .class_ 2), (0, u "java/lang/constant/Constable"), (0, .class_ 4), (0, u "java/lang/Object")] 6

/-- java/lang/constant/Constable -/
def k7 : Class := { plain "java/lang/constant/Constable" (some 0) with
  accessFlags := 1537
  interfaces := #[]
  cf := some (fileOf pool7 1 #[] #[] 1537 3 #[] #[])
  fields := #[]
  methods := #[]
  instanceTypes := #[]
  staticTypes := #[]
  resolved := Array.replicate 11 none
  statics := none }

def pool8 : Array CpInfo := pool [(1, .class_ 2), (0, u "java/lang/constant/ConstantDesc"), (0, .class_ 4), (0, u "java/lang/Object")] 32

/-- java/lang/constant/ConstantDesc -/
def k8 : Class := { plain "java/lang/constant/ConstantDesc" (some 0) with
  accessFlags := 1537
  interfaces := #[]
  cf := some (fileOf pool8 1 #[] #[] 1537 3 #[] #[])
  fields := #[]
  methods := #[]
  instanceTypes := #[]
  staticTypes := #[]
  resolved := Array.replicate 37 none
  statics := none }

def pool9 : Array CpInfo := pool [(1, .class_ 2), (0, u "java/lang/Integer"), (16, u "digits"), (0, u "[C"), (32, u "numberOfLeadingZeros"), (0, u "(I)I"), (12, u "<init>"), (17, u "DigitOnes"), (0, u "[B"), (2, u "DigitTens"), (10, .nameAndType 67 101), (0, u "()V"), (85, u "valueOf"), (0, u "(I)Ljava/lang/Integer;"), (0, .class_ 190), (0, u "java/lang/Integer$IntegerCache"), (0, .fieldref 189 192), (0, .nameAndType 193 194), (0, u "high"), (0, u "I"), (0, .fieldref 189 196), (0, .nameAndType 197 198), (0, u "cache"), (0, u "[Ljava/lang/Integer;"), (0, .methodref 1 200), (0, .nameAndType 67 201), (0, u "(I)V"), (0, .methodref 203 100), (0, .class_ 204), (0, u "java/lang/Number"), (0, .fieldref 1 206), (0, .nameAndType 207 194), (0, u "value"), (56, .integer 65536), (37, u "TYPE"), (0, u "Ljava/lang/Class;"), (0, .class_ 305), (0, u "java/lang/Comparable"), (0, .class_ 307), (0, u "java/lang/constant/Constable"), (0, .class_ 309), (0, u "java/lang/constant/ConstantDesc"), (0, u "MIN_VALUE"), (1, u "MAX_VALUE"), (3, u "SIZE"), (1, u "BYTES"), (1, u "serialVersionUID"), (0, u "J")] 131

def k9c0 : Code := { maxStack := 3, maxLocals := 1, code := jdk_33_method_22_code, exceptionTable := #[], attributes := #[] }
def k9m0 : Method := { name := "valueOf", desc := "(I)Ljava/lang/Integer;", sig := { parameters := [.int], returnType := some (.object "java/lang/Integer") }, accessFlags := 9, code := some k9c0 }
def k9c1 : Code := { maxStack := 2, maxLocals := 2, code := jdk_33_method_23_code, exceptionTable := #[], attributes := #[] }
def k9m1 : Method := { name := "<init>", desc := "(I)V", sig := { parameters := [.int], returnType := none }, accessFlags := 1, code := some k9c1 }
def k9c2 : Code := { maxStack := 3, maxLocals := 2, code := jdk_33_method_47_code, exceptionTable := #[], attributes := #[] }
def k9m2 : Method := { name := "numberOfLeadingZeros", desc := "(I)I", sig := { parameters := [.int], returnType := some .int }, accessFlags := 9, code := some k9c2 }
/-- java/lang/Integer -/
def k9 : Class := { plain "java/lang/Integer" (some 5) with
  accessFlags := 49
  interfaces := #[6, 7, 8]
  cf := some (fileOf pool9 1 #[.nestMembers #[189]] #[{ accessFlags := 9, nameIndex := 187, descriptorIndex := 188, attributes := #[] }, { accessFlags := 1, nameIndex := 67, descriptorIndex := 201, attributes := #[] }, { accessFlags := 9, nameIndex := 53, descriptorIndex := 54, attributes := #[] }] 49 203 #[304, 306, 308] #[{ accessFlags := 25, nameIndex := 310, descriptorIndex := 194, attributes := #[] }, { accessFlags := 25, nameIndex := 312, descriptorIndex := 194, attributes := #[] }, { accessFlags := 25, nameIndex := 302, descriptorIndex := 303, attributes := #[] }, { accessFlags := 24, nameIndex := 19, descriptorIndex := 20, attributes := #[] }, { accessFlags := 24, nameIndex := 89, descriptorIndex := 86, attributes := #[] }, { accessFlags := 24, nameIndex := 85, descriptorIndex := 86, attributes := #[] }, { accessFlags := 18, nameIndex := 207, descriptorIndex := 194, attributes := #[] }, { accessFlags := 25, nameIndex := 316, descriptorIndex := 194, attributes := #[] }, { accessFlags := 25, nameIndex := 318, descriptorIndex := 194, attributes := #[] }, { accessFlags := 26, nameIndex := 320, descriptorIndex := 321, attributes := #[] }])
  fields := #[{ name := "MIN_VALUE", type := .int, accessFlags := 25, slot := 0, constantValue := 0 }, { name := "MAX_VALUE", type := .int, accessFlags := 25, slot := 1, constantValue := 0 }, { name := "TYPE", type := (.object "java/lang/Class"), accessFlags := 25, slot := 2, constantValue := 0 }, { name := "digits", type := (.array .char), accessFlags := 24, slot := 3, constantValue := 0 }, { name := "DigitTens", type := (.array .byte), accessFlags := 24, slot := 4, constantValue := 0 }, { name := "DigitOnes", type := (.array .byte), accessFlags := 24, slot := 5, constantValue := 0 }, { name := "value", type := .int, accessFlags := 18, slot := 0, constantValue := 0 }, { name := "SIZE", type := .int, accessFlags := 25, slot := 6, constantValue := 0 }, { name := "BYTES", type := .int, accessFlags := 25, slot := 7, constantValue := 0 }, { name := "serialVersionUID", type := .long, accessFlags := 26, slot := 8, constantValue := 0 }]
  methods := #[k9m0, k9m1, k9m2]
  instanceTypes := #[.int]
  staticTypes := #[.int, .int, (.object "java/lang/Class"), (.array .char), (.array .byte), (.array .byte), .int, .int, .long]
  resolved := Array.replicate 453 none
  statics := none }

def pool10 : Array CpInfo := pool [(2, .class_ 4), (1, u "java/lang/Object"), (0, u "<init>"), (0, u "()V"), (0, .class_ 8), (0, u "java/lang/Integer"), (7, .class_ 18), (1, u "java/lang/Integer$IntegerCache"), (0, u "$assertionsDisabled"), (0, u "Z"), (26, u "high"), (0, u "I"), (8, u "archivedCache"), (0, u "[Ljava/lang/Integer;"), (12, u "cache"), (0, u "low")] 27

def k10m0 : Method := { name := "<init>", desc := "()V", sig := { parameters := [], returnType := none }, accessFlags := 2, code := none }
/-- java/lang/Integer$IntegerCache -/
def k10 : Class := { plain "java/lang/Integer$IntegerCache" (some 0) with
  accessFlags := 48
  interfaces := #[]
  cf := some (fileOf pool10 16 #[.nestHost 7] #[{ accessFlags := 2, nameIndex := 5, descriptorIndex := 6, attributes := #[] }] 48 2 #[] #[{ accessFlags := 24, nameIndex := 72, descriptorIndex := 48, attributes := #[] }, { accessFlags := 24, nameIndex := 47, descriptorIndex := 48, attributes := #[] }, { accessFlags := 24, nameIndex := 71, descriptorIndex := 58, attributes := #[] }, { accessFlags := 8, nameIndex := 57, descriptorIndex := 58, attributes := #[] }, { accessFlags := 4120, nameIndex := 19, descriptorIndex := 20, attributes := #[] }])
  fields := #[{ name := "low", type := .int, accessFlags := 24, slot := 0, constantValue := 0 }, { name := "high", type := .int, accessFlags := 24, slot := 1, constantValue := 0 }, { name := "cache", type := (.array (.object "java/lang/Integer")), accessFlags := 24, slot := 2, constantValue := 0 }, { name := "archivedCache", type := (.array (.object "java/lang/Integer")), accessFlags := 8, slot := 3, constantValue := 0 }, { name := "$assertionsDisabled", type := .boolean, accessFlags := 4120, slot := 4, constantValue := 0 }]
  methods := #[k10m0]
  instanceTypes := #[]
  staticTypes := #[.int, .int, (.array (.object "java/lang/Integer")), (.array (.object "java/lang/Integer")), .boolean]
  resolved := Array.replicate 100 none
  statics := some 0 }

def pool11 : Array CpInfo := pool [(1, .methodref 2 3), (0, .class_ 4), (0, .nameAndType 5 6), (0, u "java/lang/Object"), (0, u "<init>"), (0, u "()V"), (0, .fieldref 8 9), (0, .class_ 10), (0, .nameAndType 11 12), (0, u "com/example/carmine/carmine/RedBlack$Links"), (0, u "last"), (0, u "Lcom/example/carmine/carmine/Node;"), (0, .fieldref 8 14), (0, .nameAndType 15 12), (0, u "first"), (0, .fieldref 17 18), (0, .class_ 19), (0, .nameAndType 20 12), (0, u "com/example/carmine/carmine/Node"), (0, u "right"), (0, .fieldref 8 22), (0, .nameAndType 23 24), (0, u "size"), (0, u "I"), (4, u "add"), (0, u "(Lcom/example/carmine/carmine/Node;)V"), (2, u "()Lcom/example/carmine/carmine/Node;"), (1, u "()I"), (4, .class_ 41), (0, u "com/example/carmine/carmine/RedBlack")] 2

def k11c0 : Code := { maxStack := 1, maxLocals := 1, code := prog_10_method_1_code, exceptionTable := #[], attributes := #[] }
def k11m0 : Method := { name := "<init>", desc := "()V", sig := { parameters := [], returnType := none }, accessFlags := 0, code := some k11c0 }
def k11c1 : Code := { maxStack := 3, maxLocals := 2, code := prog_10_method_2_code, exceptionTable := #[], attributes := #[] }
def k11m1 : Method := { name := "add", desc := "(Lcom/example/carmine/carmine/Node;)V", sig := { parameters := [(.object "com/example/carmine/carmine/Node")], returnType := none }, accessFlags := 0, code := some k11c1 }
def k11c2 : Code := { maxStack := 1, maxLocals := 1, code := prog_10_method_3_code, exceptionTable := #[], attributes := #[] }
def k11m2 : Method := { name := "last", desc := "()Lcom/example/carmine/carmine/Node;", sig := { parameters := [], returnType := some (.object "com/example/carmine/carmine/Node") }, accessFlags := 0, code := some k11c2 }
def k11c3 : Code := { maxStack := 1, maxLocals := 1, code := prog_10_method_4_code, exceptionTable := #[], attributes := #[] }
def k11m3 : Method := { name := "size", desc := "()I", sig := { parameters := [], returnType := some .int }, accessFlags := 0, code := some k11c3 }
/-- com/example/carmine/carmine/RedBlack$Links -/
def k11 : Class := { plain "com/example/carmine/carmine/RedBlack$Links" (some 0) with
  accessFlags := 32
  interfaces := #[]
  cf := some (fileOf pool11 8 #[.nestHost 40] #[{ accessFlags := 0, nameIndex := 5, descriptorIndex := 6, attributes := #[] }, { accessFlags := 0, nameIndex := 29, descriptorIndex := 30, attributes := #[] }, { accessFlags := 0, nameIndex := 11, descriptorIndex := 33, attributes := #[] }, { accessFlags := 0, nameIndex := 23, descriptorIndex := 35, attributes := #[] }] 32 2 #[] #[{ accessFlags := 2, nameIndex := 15, descriptorIndex := 12, attributes := #[] }, { accessFlags := 2, nameIndex := 11, descriptorIndex := 12, attributes := #[] }, { accessFlags := 2, nameIndex := 23, descriptorIndex := 24, attributes := #[] }])
  fields := #[{ name := "first", type := (.object "com/example/carmine/carmine/Node"), accessFlags := 2, slot := 0, constantValue := 0 }, { name := "last", type := (.object "com/example/carmine/carmine/Node"), accessFlags := 2, slot := 1, constantValue := 0 }, { name := "size", type := .int, accessFlags := 2, slot := 2, constantValue := 0 }]
  methods := #[k11m0, k11m1, k11m2, k11m3]
  instanceTypes := #[(.object "com/example/carmine/carmine/Node"), (.object "com/example/carmine/carmine/Node"), .int]
  staticTypes := #[]
  resolved := Array.replicate 44 none
  statics := none }

def pool12 : Array CpInfo := pool [(2, .class_ 4), (1, u "java/lang/Object"), (0, u "<init>"), (0, u "()V"), (13, .class_ 22), (1, u "com/example/carmine/carmine/RedBlack"), (9, u "I"), (24, u "Lcom/example/carmine/carmine/Node;"), (45, .class_ 105), (1, u "com/example/carmine/carmine/RedBlack$Splice"), (42, u "size"), (14, .class_ 164), (0, u "com/example/carmine/carmine/RedBlack$Chain"), (0, .fieldref 166 167), (0, .class_ 168), (0, .nameAndType 169 57), (0, u "com/example/carmine/carmine/RedBlack$Links"), (0, u "first"), (0, .methodref 163 171), (0, .nameAndType 5 172), (0, u "(Lcom/example/carmine/carmine/Node;Lcom/example/carmine/carmine/RedBlack$Row;Ljava/util/Iterator;Ljava/util/function/Function;)V"), (0, .fieldref 166 174), (0, .nameAndType 148 32), (0, .methodref 163 176), (0, .nameAndType 177 178), (0, u "tree"), (0, u "(I)Lcom/example/carmine/carmine/Node;"), (1, .class_ 182), (1, u "com/example/carmine/carmine/RedBlack$Row"), (51, u "build"), (0, u "(Lcom/example/carmine/carmine/RedBlack$Links;)Lcom/example/carmine/carmine/Node;")] 21

def k12m0 : Method := { name := "<init>", desc := "()V", sig := { parameters := [], returnType := none }, accessFlags := 2, code := none }
def k12c1 : Code := { maxStack := 6, maxLocals := 1, code := prog_8_method_10_code, exceptionTable := #[], attributes := #[] }
def k12m1 : Method := { name := "build", desc := "(Lcom/example/carmine/carmine/RedBlack$Links;)Lcom/example/carmine/carmine/Node;", sig := { parameters := [(.object "com/example/carmine/carmine/RedBlack$Links")], returnType := some (.object "com/example/carmine/carmine/Node") }, accessFlags := 8, code := some k12c1 }
/-- com/example/carmine/carmine/RedBlack -/
def k12 : Class := { plain "com/example/carmine/carmine/RedBlack" (some 0) with
  accessFlags := 32
  interfaces := #[]
  cf := some (fileOf pool12 20 #[.nestMembers #[163, 166, 180, 103]] #[{ accessFlags := 2, nameIndex := 5, descriptorIndex := 6, attributes := #[] }, { accessFlags := 8, nameIndex := 234, descriptorIndex := 235, attributes := #[] }] 32 2 #[] #[])
  fields := #[]
  methods := #[k12m0, k12m1]
  instanceTypes := #[]
  staticTypes := #[]
  resolved := ((Array.replicate 257 none).setIfInBounds 165 (some (.field 11 0))).setIfInBounds 173 (some (.field 11 2))
  statics := none }

def pool13 : Array CpInfo := pool [(1, .methodref 2 3), (0, .class_ 4), (0, .nameAndType 5 6), (0, u "java/lang/Object"), (0, u "<init>"), (0, u "()V"), (0, .fieldref 8 9), (0, .class_ 10), (0, .nameAndType 11 12), (0, u "com/example/carmine/carmine/RedBlack$Chain"), (0, u "next"), (0, u "Lcom/example/carmine/carmine/Node;"), (0, .fieldref 8 14), (0, .nameAndType 15 16), (0, u "row"), (0, u "Lcom/example/carmine/carmine/RedBlack$Row;"), (0, .fieldref 8 18), (0, .nameAndType 19 20), (0, u "items"), (0, u "Ljava/util/Iterator;"), (0, .fieldref 8 22), (0, .nameAndType 23 24), (0, u "maker"), (0, u "Ljava/util/function/Function;"), (0, .class_ 26), (0, u "java/lang/Integer"), (0, .methodref 25 28), (0, .nameAndType 29 30), (0, u "numberOfLeadingZeros"), (0, u "(I)I"), (0, .fieldref 8 32), (0, .nameAndType 33 34), (0, u "redDepth"), (0, u "I"), (0, .methodref 8 36), (0, .nameAndType 37 38), (0, u "subtree"), (0, u "(II)Lcom/example/carmine/carmine/Node;"), (0, .methodref 8 40), (0, .nameAndType 11 41), (0, u "()Lcom/example/carmine/carmine/Node;"), (0, .methodref 43 44), (0, .class_ 45), (0, .nameAndType 46 47), (0, u "com/example/carmine/carmine/Node"), (0, u "setColoursAndSize"), (0, u "(ZZI)V"), (0, .fieldref 43 49), (0, .nameAndType 50 12), (0, u "left"), (0, .fieldref 43 52), (0, .nameAndType 53 12), (0, u "right"), (0, .methodref 8 55), (0, .nameAndType 56 41), (0, u "leaf"), (0, .fieldref 8 58), (0, .nameAndType 59 34), (0, u "at"), (5, u "(I)Lcom/example/carmine/carmine/Node;"), (16, u "(Lcom/example/carmine/carmine/Node;Lcom/example/carmine/carmine/RedBlack$Row;Ljava/util/Iterator;Ljava/util/function/Function;)V"), (3, u "tree"), (8, .class_ 96), (0, u "com/example/carmine/carmine/RedBlack")] 3

def k13c0 : Code := { maxStack := 2, maxLocals := 5, code := prog_9_method_1_code, exceptionTable := #[], attributes := #[] }
def k13m0 : Method := { name := "<init>", desc := "(Lcom/example/carmine/carmine/Node;Lcom/example/carmine/carmine/RedBlack$Row;Ljava/util/Iterator;Ljava/util/function/Function;)V", sig := { parameters := [(.object "com/example/carmine/carmine/Node"), (.object "com/example/carmine/carmine/RedBlack$Row"), (.object "java/util/Iterator"), (.object "java/util/function/Function")], returnType := none }, accessFlags := 0, code := some k13c0 }
def k13c1 : Code := { maxStack := 7, maxLocals := 3, code := prog_9_method_2_code, exceptionTable := #[], attributes := #[] }
def k13m1 : Method := { name := "tree", desc := "(I)Lcom/example/carmine/carmine/Node;", sig := { parameters := [.int], returnType := some (.object "com/example/carmine/carmine/Node") }, accessFlags := 0, code := some k13c1 }
def k13c2 : Code := { maxStack := 5, maxLocals := 7, code := prog_9_method_3_code, exceptionTable := #[], attributes := #[] }
def k13m2 : Method := { name := "subtree", desc := "(II)Lcom/example/carmine/carmine/Node;", sig := { parameters := [.int, .int], returnType := some (.object "com/example/carmine/carmine/Node") }, accessFlags := 0, code := some k13c2 }
def k13c3 : Code := { maxStack := 4, maxLocals := 2, code := prog_9_method_4_code, exceptionTable := #[], attributes := #[] }
def k13m3 : Method := { name := "leaf", desc := "()Lcom/example/carmine/carmine/Node;", sig := { parameters := [], returnType := some (.object "com/example/carmine/carmine/Node") }, accessFlags := 2, code := some k13c3 }
def k13c4 : Code := { maxStack := 5, maxLocals := 2, code := prog_9_method_5_code, exceptionTable := #[], attributes := #[] }
def k13m4 : Method := { name := "next", desc := "()Lcom/example/carmine/carmine/Node;", sig := { parameters := [], returnType := some (.object "com/example/carmine/carmine/Node") }, accessFlags := 2, code := some k13c4 }
/-- com/example/carmine/carmine/RedBlack$Chain -/
def k13 : Class := { plain "com/example/carmine/carmine/RedBlack$Chain" (some 0) with
  accessFlags := 32
  interfaces := #[]
  cf := some (fileOf pool13 8 #[.nestHost 95] #[{ accessFlags := 0, nameIndex := 5, descriptorIndex := 82, attributes := #[] }, { accessFlags := 0, nameIndex := 86, descriptorIndex := 65, attributes := #[] }, { accessFlags := 0, nameIndex := 37, descriptorIndex := 38, attributes := #[] }, { accessFlags := 2, nameIndex := 56, descriptorIndex := 41, attributes := #[] }, { accessFlags := 2, nameIndex := 11, descriptorIndex := 41, attributes := #[] }] 32 2 #[] #[{ accessFlags := 2, nameIndex := 11, descriptorIndex := 12, attributes := #[] }, { accessFlags := 18, nameIndex := 15, descriptorIndex := 16, attributes := #[] }, { accessFlags := 18, nameIndex := 19, descriptorIndex := 20, attributes := #[] }, { accessFlags := 18, nameIndex := 23, descriptorIndex := 24, attributes := #[] }, { accessFlags := 2, nameIndex := 59, descriptorIndex := 34, attributes := #[] }, { accessFlags := 2, nameIndex := 33, descriptorIndex := 34, attributes := #[] }])
  fields := #[{ name := "next", type := (.object "com/example/carmine/carmine/Node"), accessFlags := 2, slot := 0, constantValue := 0 }, { name := "row", type := (.object "com/example/carmine/carmine/RedBlack$Row"), accessFlags := 18, slot := 1, constantValue := 0 }, { name := "items", type := (.object "java/util/Iterator"), accessFlags := 18, slot := 2, constantValue := 0 }, { name := "maker", type := (.object "java/util/function/Function"), accessFlags := 18, slot := 3, constantValue := 0 }, { name := "at", type := .int, accessFlags := 2, slot := 4, constantValue := 0 }, { name := "redDepth", type := .int, accessFlags := 2, slot := 5, constantValue := 0 }]
  methods := #[k13m0, k13m1, k13m2, k13m3, k13m4]
  instanceTypes := #[(.object "com/example/carmine/carmine/Node"), (.object "com/example/carmine/carmine/RedBlack$Row"), (.object "java/util/Iterator"), (.object "java/util/function/Function"), .int, .int]
  staticTypes := #[]
  resolved := Array.replicate 100 none
  statics := none }

def pool14 : Array CpInfo := pool [(1, u "java/lang/Cloneable"), (0, .class_ 1), (0, u "java/lang/Object"), (0, .class_ 3)] 3

/-- java/lang/Cloneable -/
def k14 : Class := { plain "java/lang/Cloneable" (some 0) with
  accessFlags := 1537
  interfaces := #[]
  cf := some (fileOf pool14 2 #[] #[] 1537 4 #[] #[])
  fields := #[]
  methods := #[]
  instanceTypes := #[]
  staticTypes := #[]
  resolved := Array.replicate 8 none
  statics := none }

/-- the primitive byte -/
def k15 : Class := { plain "byte" none with kind := .primitive 'B', accessFlags := 0x411 }
/-- [B -/
def k16 : Class := { plain "[B" (some 0) with kind := .array 15 .byte, interfaces := #[14, 4], accessFlags := 1041 }

/-- the primitive int -/
def k17 : Class := { plain "int" none with kind := .primitive 'I', accessFlags := 0x411 }
/-- [I -/
def k18 : Class := { plain "[I" (some 0) with kind := .array 17 .int, interfaces := #[14, 4], accessFlags := 1041 }

/-- [Ljava/lang/Integer; -/
def k19 : Class := { plain "[Ljava/lang/Integer;" (some 0) with kind := .array 9 (.object "java/lang/Integer"), interfaces := #[14, 4], accessFlags := 1041 }

def heap : Heap := #[{ cls := 10, slots := #[.int 0, .int 127, .ref 1, .null, .int 0], vm := .statics 10 },
  { cls := 19, slots := #[.ref 2, .ref 3, .ref 4, .ref 5, .ref 6, .ref 7, .ref 8, .ref 9, .ref 10, .ref 11, .ref 12, .ref 13, .ref 14, .ref 15, .ref 16, .ref 17, .ref 18, .ref 19, .ref 20, .ref 21, .ref 22, .ref 23, .ref 24, .ref 25, .ref 26, .ref 27, .ref 28, .ref 29, .ref 30, .ref 31, .ref 32, .ref 33, .ref 34, .ref 35, .ref 36, .ref 37, .ref 38, .ref 39, .ref 40, .ref 41, .ref 42, .ref 43, .ref 44, .ref 45, .ref 46, .ref 47, .ref 48, .ref 49, .ref 50, .ref 51, .ref 52, .ref 53, .ref 54, .ref 55, .ref 56, .ref 57, .ref 58, .ref 59, .ref 60, .ref 61, .ref 62, .ref 63, .ref 64, .ref 65, .ref 66, .ref 67, .ref 68, .ref 69, .ref 70, .ref 71, .ref 72, .ref 73, .ref 74, .ref 75, .ref 76, .ref 77, .ref 78, .ref 79, .ref 80, .ref 81, .ref 82, .ref 83, .ref 84, .ref 85, .ref 86, .ref 87, .ref 88, .ref 89, .ref 90, .ref 91, .ref 92, .ref 93, .ref 94, .ref 95, .ref 96, .ref 97, .ref 98, .ref 99, .ref 100, .ref 101, .ref 102, .ref 103, .ref 104, .ref 105, .ref 106, .ref 107, .ref 108, .ref 109, .ref 110, .ref 111, .ref 112, .ref 113, .ref 114, .ref 115, .ref 116, .ref 117, .ref 118, .ref 119, .ref 120, .ref 121, .ref 122, .ref 123, .ref 124, .ref 125, .ref 126, .ref 127, .ref 128, .ref 129, .ref 130, .ref 131, .ref 132, .ref 133, .ref 134, .ref 135, .ref 136, .ref 137, .ref 138, .ref 139, .ref 140, .ref 141, .ref 142, .ref 143, .ref 144, .ref 145, .ref 146, .ref 147, .ref 148, .ref 149, .ref 150, .ref 151, .ref 152, .ref 153, .ref 154, .ref 155, .ref 156, .ref 157, .ref 158, .ref 159, .ref 160, .ref 161, .ref 162, .ref 163, .ref 164, .ref 165, .ref 166, .ref 167, .ref 168, .ref 169, .ref 170, .ref 171, .ref 172, .ref 173, .ref 174, .ref 175, .ref 176, .ref 177, .ref 178, .ref 179, .ref 180, .ref 181, .ref 182, .ref 183, .ref 184, .ref 185, .ref 186, .ref 187, .ref 188, .ref 189, .ref 190, .ref 191, .ref 192, .ref 193, .ref 194, .ref 195, .ref 196, .ref 197, .ref 198, .ref 199, .ref 200, .ref 201, .ref 202, .ref 203, .ref 204, .ref 205, .ref 206, .ref 207, .ref 208, .ref 209, .ref 210, .ref 211, .ref 212, .ref 213, .ref 214, .ref 215, .ref 216, .ref 217, .ref 218, .ref 219, .ref 220, .ref 221, .ref 222, .ref 223, .ref 224, .ref 225, .ref 226, .ref 227, .ref 228, .ref 229, .ref 230, .ref 231, .ref 232, .ref 233, .ref 234, .ref 235, .ref 236, .ref 237, .ref 238, .ref 239, .ref 240, .ref 241, .ref 242, .ref 243, .ref 244, .ref 245, .ref 246, .ref 247, .ref 248, .ref 249, .ref 250, .ref 251, .ref 252, .ref 253, .ref 254, .ref 255, .ref 256, .ref 257], vm := .none },
  { cls := 9, slots := #[.int (-128)], vm := .none },
  { cls := 9, slots := #[.int (-127)], vm := .none },
  { cls := 9, slots := #[.int (-126)], vm := .none },
  { cls := 9, slots := #[.int (-125)], vm := .none },
  { cls := 9, slots := #[.int (-124)], vm := .none },
  { cls := 9, slots := #[.int (-123)], vm := .none },
  { cls := 9, slots := #[.int (-122)], vm := .none },
  { cls := 9, slots := #[.int (-121)], vm := .none },
  { cls := 9, slots := #[.int (-120)], vm := .none },
  { cls := 9, slots := #[.int (-119)], vm := .none },
  { cls := 9, slots := #[.int (-118)], vm := .none },
  { cls := 9, slots := #[.int (-117)], vm := .none },
  { cls := 9, slots := #[.int (-116)], vm := .none },
  { cls := 9, slots := #[.int (-115)], vm := .none },
  { cls := 9, slots := #[.int (-114)], vm := .none },
  { cls := 9, slots := #[.int (-113)], vm := .none },
  { cls := 9, slots := #[.int (-112)], vm := .none },
  { cls := 9, slots := #[.int (-111)], vm := .none },
  { cls := 9, slots := #[.int (-110)], vm := .none },
  { cls := 9, slots := #[.int (-109)], vm := .none },
  { cls := 9, slots := #[.int (-108)], vm := .none },
  { cls := 9, slots := #[.int (-107)], vm := .none },
  { cls := 9, slots := #[.int (-106)], vm := .none },
  { cls := 9, slots := #[.int (-105)], vm := .none },
  { cls := 9, slots := #[.int (-104)], vm := .none },
  { cls := 9, slots := #[.int (-103)], vm := .none },
  { cls := 9, slots := #[.int (-102)], vm := .none },
  { cls := 9, slots := #[.int (-101)], vm := .none },
  { cls := 9, slots := #[.int (-100)], vm := .none },
  { cls := 9, slots := #[.int (-99)], vm := .none },
  { cls := 9, slots := #[.int (-98)], vm := .none },
  { cls := 9, slots := #[.int (-97)], vm := .none },
  { cls := 9, slots := #[.int (-96)], vm := .none },
  { cls := 9, slots := #[.int (-95)], vm := .none },
  { cls := 9, slots := #[.int (-94)], vm := .none },
  { cls := 9, slots := #[.int (-93)], vm := .none },
  { cls := 9, slots := #[.int (-92)], vm := .none },
  { cls := 9, slots := #[.int (-91)], vm := .none },
  { cls := 9, slots := #[.int (-90)], vm := .none },
  { cls := 9, slots := #[.int (-89)], vm := .none },
  { cls := 9, slots := #[.int (-88)], vm := .none },
  { cls := 9, slots := #[.int (-87)], vm := .none },
  { cls := 9, slots := #[.int (-86)], vm := .none },
  { cls := 9, slots := #[.int (-85)], vm := .none },
  { cls := 9, slots := #[.int (-84)], vm := .none },
  { cls := 9, slots := #[.int (-83)], vm := .none },
  { cls := 9, slots := #[.int (-82)], vm := .none },
  { cls := 9, slots := #[.int (-81)], vm := .none },
  { cls := 9, slots := #[.int (-80)], vm := .none },
  { cls := 9, slots := #[.int (-79)], vm := .none },
  { cls := 9, slots := #[.int (-78)], vm := .none },
  { cls := 9, slots := #[.int (-77)], vm := .none },
  { cls := 9, slots := #[.int (-76)], vm := .none },
  { cls := 9, slots := #[.int (-75)], vm := .none },
  { cls := 9, slots := #[.int (-74)], vm := .none },
  { cls := 9, slots := #[.int (-73)], vm := .none },
  { cls := 9, slots := #[.int (-72)], vm := .none },
  { cls := 9, slots := #[.int (-71)], vm := .none },
  { cls := 9, slots := #[.int (-70)], vm := .none },
  { cls := 9, slots := #[.int (-69)], vm := .none },
  { cls := 9, slots := #[.int (-68)], vm := .none },
  { cls := 9, slots := #[.int (-67)], vm := .none },
  { cls := 9, slots := #[.int (-66)], vm := .none },
  { cls := 9, slots := #[.int (-65)], vm := .none },
  { cls := 9, slots := #[.int (-64)], vm := .none },
  { cls := 9, slots := #[.int (-63)], vm := .none },
  { cls := 9, slots := #[.int (-62)], vm := .none },
  { cls := 9, slots := #[.int (-61)], vm := .none },
  { cls := 9, slots := #[.int (-60)], vm := .none },
  { cls := 9, slots := #[.int (-59)], vm := .none },
  { cls := 9, slots := #[.int (-58)], vm := .none },
  { cls := 9, slots := #[.int (-57)], vm := .none },
  { cls := 9, slots := #[.int (-56)], vm := .none },
  { cls := 9, slots := #[.int (-55)], vm := .none },
  { cls := 9, slots := #[.int (-54)], vm := .none },
  { cls := 9, slots := #[.int (-53)], vm := .none },
  { cls := 9, slots := #[.int (-52)], vm := .none },
  { cls := 9, slots := #[.int (-51)], vm := .none },
  { cls := 9, slots := #[.int (-50)], vm := .none },
  { cls := 9, slots := #[.int (-49)], vm := .none },
  { cls := 9, slots := #[.int (-48)], vm := .none },
  { cls := 9, slots := #[.int (-47)], vm := .none },
  { cls := 9, slots := #[.int (-46)], vm := .none },
  { cls := 9, slots := #[.int (-45)], vm := .none },
  { cls := 9, slots := #[.int (-44)], vm := .none },
  { cls := 9, slots := #[.int (-43)], vm := .none },
  { cls := 9, slots := #[.int (-42)], vm := .none },
  { cls := 9, slots := #[.int (-41)], vm := .none },
  { cls := 9, slots := #[.int (-40)], vm := .none },
  { cls := 9, slots := #[.int (-39)], vm := .none },
  { cls := 9, slots := #[.int (-38)], vm := .none },
  { cls := 9, slots := #[.int (-37)], vm := .none },
  { cls := 9, slots := #[.int (-36)], vm := .none },
  { cls := 9, slots := #[.int (-35)], vm := .none },
  { cls := 9, slots := #[.int (-34)], vm := .none },
  { cls := 9, slots := #[.int (-33)], vm := .none },
  { cls := 9, slots := #[.int (-32)], vm := .none },
  { cls := 9, slots := #[.int (-31)], vm := .none },
  { cls := 9, slots := #[.int (-30)], vm := .none },
  { cls := 9, slots := #[.int (-29)], vm := .none },
  { cls := 9, slots := #[.int (-28)], vm := .none },
  { cls := 9, slots := #[.int (-27)], vm := .none },
  { cls := 9, slots := #[.int (-26)], vm := .none },
  { cls := 9, slots := #[.int (-25)], vm := .none },
  { cls := 9, slots := #[.int (-24)], vm := .none },
  { cls := 9, slots := #[.int (-23)], vm := .none },
  { cls := 9, slots := #[.int (-22)], vm := .none },
  { cls := 9, slots := #[.int (-21)], vm := .none },
  { cls := 9, slots := #[.int (-20)], vm := .none },
  { cls := 9, slots := #[.int (-19)], vm := .none },
  { cls := 9, slots := #[.int (-18)], vm := .none },
  { cls := 9, slots := #[.int (-17)], vm := .none },
  { cls := 9, slots := #[.int (-16)], vm := .none },
  { cls := 9, slots := #[.int (-15)], vm := .none },
  { cls := 9, slots := #[.int (-14)], vm := .none },
  { cls := 9, slots := #[.int (-13)], vm := .none },
  { cls := 9, slots := #[.int (-12)], vm := .none },
  { cls := 9, slots := #[.int (-11)], vm := .none },
  { cls := 9, slots := #[.int (-10)], vm := .none },
  { cls := 9, slots := #[.int (-9)], vm := .none },
  { cls := 9, slots := #[.int (-8)], vm := .none },
  { cls := 9, slots := #[.int (-7)], vm := .none },
  { cls := 9, slots := #[.int (-6)], vm := .none },
  { cls := 9, slots := #[.int (-5)], vm := .none },
  { cls := 9, slots := #[.int (-4)], vm := .none },
  { cls := 9, slots := #[.int (-3)], vm := .none },
  { cls := 9, slots := #[.int (-2)], vm := .none },
  { cls := 9, slots := #[.int (-1)], vm := .none },
  { cls := 9, slots := #[.int (0)], vm := .none },
  { cls := 9, slots := #[.int (1)], vm := .none },
  { cls := 9, slots := #[.int (2)], vm := .none },
  { cls := 9, slots := #[.int (3)], vm := .none },
  { cls := 9, slots := #[.int (4)], vm := .none },
  { cls := 9, slots := #[.int (5)], vm := .none },
  { cls := 9, slots := #[.int (6)], vm := .none },
  { cls := 9, slots := #[.int (7)], vm := .none },
  { cls := 9, slots := #[.int (8)], vm := .none },
  { cls := 9, slots := #[.int (9)], vm := .none },
  { cls := 9, slots := #[.int (10)], vm := .none },
  { cls := 9, slots := #[.int (11)], vm := .none },
  { cls := 9, slots := #[.int (12)], vm := .none },
  { cls := 9, slots := #[.int (13)], vm := .none },
  { cls := 9, slots := #[.int (14)], vm := .none },
  { cls := 9, slots := #[.int (15)], vm := .none },
  { cls := 9, slots := #[.int (16)], vm := .none },
  { cls := 9, slots := #[.int (17)], vm := .none },
  { cls := 9, slots := #[.int (18)], vm := .none },
  { cls := 9, slots := #[.int (19)], vm := .none },
  { cls := 9, slots := #[.int (20)], vm := .none },
  { cls := 9, slots := #[.int (21)], vm := .none },
  { cls := 9, slots := #[.int (22)], vm := .none },
  { cls := 9, slots := #[.int (23)], vm := .none },
  { cls := 9, slots := #[.int (24)], vm := .none },
  { cls := 9, slots := #[.int (25)], vm := .none },
  { cls := 9, slots := #[.int (26)], vm := .none },
  { cls := 9, slots := #[.int (27)], vm := .none },
  { cls := 9, slots := #[.int (28)], vm := .none },
  { cls := 9, slots := #[.int (29)], vm := .none },
  { cls := 9, slots := #[.int (30)], vm := .none },
  { cls := 9, slots := #[.int (31)], vm := .none },
  { cls := 9, slots := #[.int (32)], vm := .none },
  { cls := 9, slots := #[.int (33)], vm := .none },
  { cls := 9, slots := #[.int (34)], vm := .none },
  { cls := 9, slots := #[.int (35)], vm := .none },
  { cls := 9, slots := #[.int (36)], vm := .none },
  { cls := 9, slots := #[.int (37)], vm := .none },
  { cls := 9, slots := #[.int (38)], vm := .none },
  { cls := 9, slots := #[.int (39)], vm := .none },
  { cls := 9, slots := #[.int (40)], vm := .none },
  { cls := 9, slots := #[.int (41)], vm := .none },
  { cls := 9, slots := #[.int (42)], vm := .none },
  { cls := 9, slots := #[.int (43)], vm := .none },
  { cls := 9, slots := #[.int (44)], vm := .none },
  { cls := 9, slots := #[.int (45)], vm := .none },
  { cls := 9, slots := #[.int (46)], vm := .none },
  { cls := 9, slots := #[.int (47)], vm := .none },
  { cls := 9, slots := #[.int (48)], vm := .none },
  { cls := 9, slots := #[.int (49)], vm := .none },
  { cls := 9, slots := #[.int (50)], vm := .none },
  { cls := 9, slots := #[.int (51)], vm := .none },
  { cls := 9, slots := #[.int (52)], vm := .none },
  { cls := 9, slots := #[.int (53)], vm := .none },
  { cls := 9, slots := #[.int (54)], vm := .none },
  { cls := 9, slots := #[.int (55)], vm := .none },
  { cls := 9, slots := #[.int (56)], vm := .none },
  { cls := 9, slots := #[.int (57)], vm := .none },
  { cls := 9, slots := #[.int (58)], vm := .none },
  { cls := 9, slots := #[.int (59)], vm := .none },
  { cls := 9, slots := #[.int (60)], vm := .none },
  { cls := 9, slots := #[.int (61)], vm := .none },
  { cls := 9, slots := #[.int (62)], vm := .none },
  { cls := 9, slots := #[.int (63)], vm := .none },
  { cls := 9, slots := #[.int (64)], vm := .none },
  { cls := 9, slots := #[.int (65)], vm := .none },
  { cls := 9, slots := #[.int (66)], vm := .none },
  { cls := 9, slots := #[.int (67)], vm := .none },
  { cls := 9, slots := #[.int (68)], vm := .none },
  { cls := 9, slots := #[.int (69)], vm := .none },
  { cls := 9, slots := #[.int (70)], vm := .none },
  { cls := 9, slots := #[.int (71)], vm := .none },
  { cls := 9, slots := #[.int (72)], vm := .none },
  { cls := 9, slots := #[.int (73)], vm := .none },
  { cls := 9, slots := #[.int (74)], vm := .none },
  { cls := 9, slots := #[.int (75)], vm := .none },
  { cls := 9, slots := #[.int (76)], vm := .none },
  { cls := 9, slots := #[.int (77)], vm := .none },
  { cls := 9, slots := #[.int (78)], vm := .none },
  { cls := 9, slots := #[.int (79)], vm := .none },
  { cls := 9, slots := #[.int (80)], vm := .none },
  { cls := 9, slots := #[.int (81)], vm := .none },
  { cls := 9, slots := #[.int (82)], vm := .none },
  { cls := 9, slots := #[.int (83)], vm := .none },
  { cls := 9, slots := #[.int (84)], vm := .none },
  { cls := 9, slots := #[.int (85)], vm := .none },
  { cls := 9, slots := #[.int (86)], vm := .none },
  { cls := 9, slots := #[.int (87)], vm := .none },
  { cls := 9, slots := #[.int (88)], vm := .none },
  { cls := 9, slots := #[.int (89)], vm := .none },
  { cls := 9, slots := #[.int (90)], vm := .none },
  { cls := 9, slots := #[.int (91)], vm := .none },
  { cls := 9, slots := #[.int (92)], vm := .none },
  { cls := 9, slots := #[.int (93)], vm := .none },
  { cls := 9, slots := #[.int (94)], vm := .none },
  { cls := 9, slots := #[.int (95)], vm := .none },
  { cls := 9, slots := #[.int (96)], vm := .none },
  { cls := 9, slots := #[.int (97)], vm := .none },
  { cls := 9, slots := #[.int (98)], vm := .none },
  { cls := 9, slots := #[.int (99)], vm := .none },
  { cls := 9, slots := #[.int (100)], vm := .none },
  { cls := 9, slots := #[.int (101)], vm := .none },
  { cls := 9, slots := #[.int (102)], vm := .none },
  { cls := 9, slots := #[.int (103)], vm := .none },
  { cls := 9, slots := #[.int (104)], vm := .none },
  { cls := 9, slots := #[.int (105)], vm := .none },
  { cls := 9, slots := #[.int (106)], vm := .none },
  { cls := 9, slots := #[.int (107)], vm := .none },
  { cls := 9, slots := #[.int (108)], vm := .none },
  { cls := 9, slots := #[.int (109)], vm := .none },
  { cls := 9, slots := #[.int (110)], vm := .none },
  { cls := 9, slots := #[.int (111)], vm := .none },
  { cls := 9, slots := #[.int (112)], vm := .none },
  { cls := 9, slots := #[.int (113)], vm := .none },
  { cls := 9, slots := #[.int (114)], vm := .none },
  { cls := 9, slots := #[.int (115)], vm := .none },
  { cls := 9, slots := #[.int (116)], vm := .none },
  { cls := 9, slots := #[.int (117)], vm := .none },
  { cls := 9, slots := #[.int (118)], vm := .none },
  { cls := 9, slots := #[.int (119)], vm := .none },
  { cls := 9, slots := #[.int (120)], vm := .none },
  { cls := 9, slots := #[.int (121)], vm := .none },
  { cls := 9, slots := #[.int (122)], vm := .none },
  { cls := 9, slots := #[.int (123)], vm := .none },
  { cls := 9, slots := #[.int (124)], vm := .none },
  { cls := 9, slots := #[.int (125)], vm := .none },
  { cls := 9, slots := #[.int (126)], vm := .none },
  { cls := 9, slots := #[.int (127)], vm := .none }]
def classes : Array Class := #[k0, k1, k2, k3, k4, k5, k6, k7, k8, k9, k10, k11, k12, k13, k14, k15, k16, k17, k18, k19]
def interned : List (Array UInt16 × Addr) := []
def slotsUsed : Nat := 517
def theMethod : MethodId := ⟨1, 2⟩
def args0 : Array Value := #[.int 5, .int 3]
def aboutOver (below : List Frame) : State where
  vm := { classes := classes, interned := interned.toArray }
  heap := heap
  slotsUsed := slotsUsed
  threads := #[{ frames := .invoking theMethod args0 :: below }]
def below0 : List Frame := [.native { method := ⟨0, 0⟩, args := #[] }]
def about1 : State := aboutOver below0
def p0 : Program := .bare "" "" ""
def e0 : Env := launch0.env 0 0 0
theorem w_frames : about1.frames = Frame.invoking theMethod args0 :: below0 := rfl
set_option maxRecDepth 65536 in
theorem w_args : argsFit about1.vm theMethod args0 = true := by decide +kernel
set_option maxRecDepth 65536 in
theorem w_heap : heapFits about1 = true := by decide +kernel
set_option maxRecDepth 65536 in
theorem w_runnable : about1.curStatus? = some .runnable := by decide +kernel
set_option maxRecDepth 65536 in
theorem w_alone : about1.alone = true := by decide +kernel
set_option maxRecDepth 65536 in
theorem w_named : about1.methodNamed? x = some theMethod := by decide +kernel
set_option maxRecDepth 65536 in
theorem w_hears : about1.hears theMethod below0 = true := by decide +kernel
set_option maxRecDepth 65536 in
theorem w_ripe : about1.ripe theMethod args0 below0 = true := by decide +kernel
theorem w_running : about1.status = .running := rfl
set_option maxRecDepth 65536 in
theorem w_room : about1.hasRoom e0.platform room_1 = true :=
  launch0.hasRoom_least _ room_1 (by decide +kernel) (by decide +kernel) (by decide +kernel) (by decide +kernel) (by decide +kernel) (by decide +kernel)
theorem allAtoms_all (ts : List Jvm.Cond) (a : Array Jvm.Value) (st : Jvm.State) : (allAtoms ts).before a st = ts.all (fun c => c.before a st) := by
  induction ts with
  | nil => rfl
  | cons c t ih =>
    show (Jvm.Cond.and c (allAtoms t)).before a st = _
    rw [Jvm.Cond.before_and, ih, List.all_cons]
def words1 : List Jvm.Cond := Jvm.Cond.code x code maxLocals ret :: tables_1
/-- a 'code' word, met by the world's own term for the bytes: nothing is compared byte by byte -/
theorem code_word {y : MethodName} {bytes : ByteArray} {mx : Nat} {rt : Option FieldType} {a : Array Value} {s : State} {m : MethodId} {meth : Method} {c : Code} (h1 : s.methodNamed? y = some m) (h2 : s.vm.method? m = some meth) (h3 : meth.code = some c) (h4 : c.code = bytes)
    (h5 : (c.maxLocals == mx && c.exceptionTable.isEmpty && decide (c.maxStack ≤ mostOperands) && decide (meth.sig.returnType = rt) && !meth.locks && decide (parseMethodDescriptor y.desc = some meth.sig)) = true) : (Jvm.Cond.code y bytes mx rt).before a s = true := by
  simp only [Bool.and_eq_true, beq_iff_eq, Bool.not_eq_true', decide_eq_true_eq] at h5
  obtain ⟨⟨⟨⟨⟨g1, g2⟩, g3⟩, g4⟩, g5⟩, g6⟩ := h5
  simp [Cond.before, Cond.holds, Cond.value, h1, h2, h3, h4, g1, g2, g3, g4, g5, g6]
def isCode : Jvm.Cond → Bool
  | .code _ _ _ _ => true
  | _ => false
theorem all_split {L : List Jvm.Cond} {P : Jvm.Cond → Bool} (h1 : L.all (fun c => isCode c || P c) = true) (h2 : ∀ c ∈ L.filter isCode, P c = true) : L.all P = true := by
  refine List.all_eq_true.mpr fun c hc => ?_
  have h := List.all_eq_true.mp h1 c hc
  rcases Bool.eq_false_or_eq_true (isCode c) with hi | hi
  · exact h2 c (List.mem_filter.mpr ⟨hc, hi⟩)
  · simpa [hi] using h
set_option maxRecDepth 65536 in
theorem w_c0 : (Jvm.Cond.code x code maxLocals ret).before args0 about1 = true := code_word (m := ⟨1, 2⟩) (meth := k1m2) (c := k1c2) (by decide +kernel) rfl rfl rfl (by decide +kernel)
set_option maxRecDepth 65536 in
theorem w_c1 : (Jvm.Cond.code ({ cls := "java/lang/Integer", name := "valueOf", desc := "(I)Ljava/lang/Integer;" } : Jvm.MethodName) jdk_33_method_22_code (1 : Nat) (Option.some (Jvm.ClassFile.FieldType.object "java/lang/Integer"))).before args0 about1 = true := code_word (m := ⟨9, 0⟩) (meth := k9m0) (c := k9c0) (by decide +kernel) rfl rfl rfl (by decide +kernel)
set_option maxRecDepth 65536 in
theorem w_c2 : (Jvm.Cond.code ({ cls := "com/example/carmine/carmine/Node", name := "<init>", desc := "(Ljava/lang/Object;Ljava/lang/Object;)V" } : Jvm.MethodName) prog_7_method_1_code (3 : Nat) (Option.none : Option Jvm.ClassFile.FieldType)).before args0 about1 = true := code_word (m := ⟨3, 0⟩) (meth := k3m0) (c := k3c0) (by decide +kernel) rfl rfl rfl (by decide +kernel)
set_option maxRecDepth 65536 in
theorem w_c3 : (Jvm.Cond.code ({ cls := "java/lang/Object", name := "<init>", desc := "()V" } : Jvm.MethodName) object_method_1_code (1 : Nat) (Option.none : Option Jvm.ClassFile.FieldType)).before args0 about1 = true := code_word (m := ⟨0, 0⟩) (meth := k0m0) (c := k0c0) (by decide +kernel) rfl rfl rfl (by decide +kernel)
set_option maxRecDepth 65536 in
theorem w_c4 : (Jvm.Cond.code ({ cls := "com/example/carmine/carmine/LinksAddPinLaw", name := "pick", desc := "(ILcom/example/carmine/carmine/Node;Lcom/example/carmine/carmine/Node;Lcom/example/carmine/carmine/Node;)Lcom/example/carmine/carmine/Node;" } : Jvm.MethodName) method_2_code (5 : Nat) (Option.some (Jvm.ClassFile.FieldType.object "com/example/carmine/carmine/Node"))).before args0 about1 = true := code_word (m := ⟨1, 1⟩) (meth := k1m1) (c := k1c1) (by decide +kernel) rfl rfl rfl (by decide +kernel)
set_option maxRecDepth 65536 in
theorem w_c5 : (Jvm.Cond.code ({ cls := "com/example/carmine/carmine/RedBlack$Links", name := "<init>", desc := "()V" } : Jvm.MethodName) prog_10_method_1_code (1 : Nat) (Option.none : Option Jvm.ClassFile.FieldType)).before args0 about1 = true := code_word (m := ⟨11, 0⟩) (meth := k11m0) (c := k11c0) (by decide +kernel) rfl rfl rfl (by decide +kernel)
set_option maxRecDepth 65536 in
theorem w_c6 : (Jvm.Cond.code ({ cls := "com/example/carmine/carmine/RedBlack$Links", name := "last", desc := "()Lcom/example/carmine/carmine/Node;" } : Jvm.MethodName) prog_10_method_3_code (1 : Nat) (Option.some (Jvm.ClassFile.FieldType.object "com/example/carmine/carmine/Node"))).before args0 about1 = true := code_word (m := ⟨11, 2⟩) (meth := k11m2) (c := k11c2) (by decide +kernel) rfl rfl rfl (by decide +kernel)
set_option maxRecDepth 65536 in
theorem w_c7 : (Jvm.Cond.code ({ cls := "com/example/carmine/carmine/RedBlack$Links", name := "size", desc := "()I" } : Jvm.MethodName) prog_10_method_4_code (1 : Nat) (Option.some Jvm.ClassFile.FieldType.int)).before args0 about1 = true := code_word (m := ⟨11, 3⟩) (meth := k11m3) (c := k11c3) (by decide +kernel) rfl rfl rfl (by decide +kernel)
set_option maxRecDepth 65536 in
theorem w_c8 : (Jvm.Cond.code ({ cls := "com/example/carmine/carmine/RedBlack", name := "build", desc := "(Lcom/example/carmine/carmine/RedBlack$Links;)Lcom/example/carmine/carmine/Node;" } : Jvm.MethodName) prog_8_method_10_code (1 : Nat) (Option.some (Jvm.ClassFile.FieldType.object "com/example/carmine/carmine/Node"))).before args0 about1 = true := code_word (m := ⟨12, 1⟩) (meth := k12m1) (c := k12c1) (by decide +kernel) rfl rfl rfl (by decide +kernel)
set_option maxRecDepth 65536 in
theorem w_c9 : (Jvm.Cond.code ({ cls := "com/example/carmine/carmine/RedBlack$Chain", name := "<init>", desc := "(Lcom/example/carmine/carmine/Node;Lcom/example/carmine/carmine/RedBlack$Row;Ljava/util/Iterator;Ljava/util/function/Function;)V" } : Jvm.MethodName) prog_9_method_1_code (5 : Nat) (Option.none : Option Jvm.ClassFile.FieldType)).before args0 about1 = true := code_word (m := ⟨13, 0⟩) (meth := k13m0) (c := k13c0) (by decide +kernel) rfl rfl rfl (by decide +kernel)
set_option maxRecDepth 65536 in
theorem w_c10 : (Jvm.Cond.code ({ cls := "com/example/carmine/carmine/RedBlack$Chain", name := "tree", desc := "(I)Lcom/example/carmine/carmine/Node;" } : Jvm.MethodName) prog_9_method_2_code (3 : Nat) (Option.some (Jvm.ClassFile.FieldType.object "com/example/carmine/carmine/Node"))).before args0 about1 = true := code_word (m := ⟨13, 1⟩) (meth := k13m1) (c := k13c1) (by decide +kernel) rfl rfl rfl (by decide +kernel)
set_option maxRecDepth 65536 in
theorem w_c11 : (Jvm.Cond.code ({ cls := "java/lang/Integer", name := "numberOfLeadingZeros", desc := "(I)I" } : Jvm.MethodName) jdk_33_method_47_code (2 : Nat) (Option.some Jvm.ClassFile.FieldType.int)).before args0 about1 = true := code_word (m := ⟨9, 2⟩) (meth := k9m2) (c := k9c2) (by decide +kernel) rfl rfl rfl (by decide +kernel)
set_option maxRecDepth 65536 in
theorem w_c12 : (Jvm.Cond.code ({ cls := "com/example/carmine/carmine/RedBlack$Links", name := "add", desc := "(Lcom/example/carmine/carmine/Node;)V" } : Jvm.MethodName) prog_10_method_2_code (2 : Nat) (Option.none : Option Jvm.ClassFile.FieldType)).before args0 about1 = true := code_word (m := ⟨11, 1⟩) (meth := k11m1) (c := k11c1) (by decide +kernel) rfl rfl rfl (by decide +kernel)
set_option maxRecDepth 65536 in
theorem w_c13 : (Jvm.Cond.code ({ cls := "com/example/carmine/carmine/RedBlack$Chain", name := "subtree", desc := "(II)Lcom/example/carmine/carmine/Node;" } : Jvm.MethodName) prog_9_method_3_code (7 : Nat) (Option.some (Jvm.ClassFile.FieldType.object "com/example/carmine/carmine/Node"))).before args0 about1 = true := code_word (m := ⟨13, 2⟩) (meth := k13m2) (c := k13c2) (by decide +kernel) rfl rfl rfl (by decide +kernel)
set_option maxRecDepth 65536 in
theorem w_c14 : (Jvm.Cond.code ({ cls := "com/example/carmine/carmine/RedBlack$Chain", name := "next", desc := "()Lcom/example/carmine/carmine/Node;" } : Jvm.MethodName) prog_9_method_5_code (2 : Nat) (Option.some (Jvm.ClassFile.FieldType.object "com/example/carmine/carmine/Node"))).before args0 about1 = true := code_word (m := ⟨13, 4⟩) (meth := k13m4) (c := k13c4) (by decide +kernel) rfl rfl rfl (by decide +kernel)
set_option maxRecDepth 65536 in
theorem w_c15 : (Jvm.Cond.code ({ cls := "com/example/carmine/carmine/RedBlack$Chain", name := "leaf", desc := "()Lcom/example/carmine/carmine/Node;" } : Jvm.MethodName) prog_9_method_4_code (2 : Nat) (Option.some (Jvm.ClassFile.FieldType.object "com/example/carmine/carmine/Node"))).before args0 about1 = true := code_word (m := ⟨13, 3⟩) (meth := k13m3) (c := k13c3) (by decide +kernel) rfl rfl rfl (by decide +kernel)
set_option maxRecDepth 65536 in
theorem w_c16 : (Jvm.Cond.code ({ cls := "com/example/carmine/carmine/Node", name := "setColoursAndSize", desc := "(ZZI)V" } : Jvm.MethodName) prog_7_method_11_code (4 : Nat) (Option.none : Option Jvm.ClassFile.FieldType)).before args0 about1 = true := code_word (m := ⟨3, 1⟩) (meth := k3m1) (c := k3c1) (by decide +kernel) rfl rfl rfl (by decide +kernel)
set_option maxRecDepth 65536 in
theorem w_c17 : (Jvm.Cond.code ({ cls := "java/lang/Integer", name := "<init>", desc := "(I)V" } : Jvm.MethodName) jdk_33_method_23_code (2 : Nat) (Option.none : Option Jvm.ClassFile.FieldType)).before args0 about1 = true := code_word (m := ⟨9, 1⟩) (meth := k9m1) (c := k9c1) (by decide +kernel) rfl rfl rfl (by decide +kernel)
set_option maxRecDepth 65536 in
theorem w_c18 : (Jvm.Cond.code ({ cls := "java/lang/Number", name := "<init>", desc := "()V" } : Jvm.MethodName) jdk_18_method_1_code (1 : Nat) (Option.none : Option Jvm.ClassFile.FieldType)).before args0 about1 = true := code_word (m := ⟨5, 0⟩) (meth := k5m0) (c := k5c0) (by decide +kernel) rfl rfl rfl (by decide +kernel)
def codes1 : List Jvm.Cond := [Jvm.Cond.code x code maxLocals ret, Jvm.Cond.code ({ cls := "java/lang/Integer", name := "valueOf", desc := "(I)Ljava/lang/Integer;" } : Jvm.MethodName) jdk_33_method_22_code (1 : Nat) (Option.some (Jvm.ClassFile.FieldType.object "java/lang/Integer")), Jvm.Cond.code ({ cls := "com/example/carmine/carmine/Node", name := "<init>", desc := "(Ljava/lang/Object;Ljava/lang/Object;)V" } : Jvm.MethodName) prog_7_method_1_code (3 : Nat) (Option.none : Option Jvm.ClassFile.FieldType), Jvm.Cond.code ({ cls := "java/lang/Object", name := "<init>", desc := "()V" } : Jvm.MethodName) object_method_1_code (1 : Nat) (Option.none : Option Jvm.ClassFile.FieldType), Jvm.Cond.code ({ cls := "com/example/carmine/carmine/LinksAddPinLaw", name := "pick", desc := "(ILcom/example/carmine/carmine/Node;Lcom/example/carmine/carmine/Node;Lcom/example/carmine/carmine/Node;)Lcom/example/carmine/carmine/Node;" } : Jvm.MethodName) method_2_code (5 : Nat) (Option.some (Jvm.ClassFile.FieldType.object "com/example/carmine/carmine/Node")), Jvm.Cond.code ({ cls := "com/example/carmine/carmine/RedBlack$Links", name := "<init>", desc := "()V" } : Jvm.MethodName) prog_10_method_1_code (1 : Nat) (Option.none : Option Jvm.ClassFile.FieldType), Jvm.Cond.code ({ cls := "com/example/carmine/carmine/RedBlack$Links", name := "last", desc := "()Lcom/example/carmine/carmine/Node;" } : Jvm.MethodName) prog_10_method_3_code (1 : Nat) (Option.some (Jvm.ClassFile.FieldType.object "com/example/carmine/carmine/Node")), Jvm.Cond.code ({ cls := "com/example/carmine/carmine/RedBlack$Links", name := "size", desc := "()I" } : Jvm.MethodName) prog_10_method_4_code (1 : Nat) (Option.some Jvm.ClassFile.FieldType.int), Jvm.Cond.code ({ cls := "com/example/carmine/carmine/RedBlack", name := "build", desc := "(Lcom/example/carmine/carmine/RedBlack$Links;)Lcom/example/carmine/carmine/Node;" } : Jvm.MethodName) prog_8_method_10_code (1 : Nat) (Option.some (Jvm.ClassFile.FieldType.object "com/example/carmine/carmine/Node")), Jvm.Cond.code ({ cls := "com/example/carmine/carmine/RedBlack$Chain", name := "<init>", desc := "(Lcom/example/carmine/carmine/Node;Lcom/example/carmine/carmine/RedBlack$Row;Ljava/util/Iterator;Ljava/util/function/Function;)V" } : Jvm.MethodName) prog_9_method_1_code (5 : Nat) (Option.none : Option Jvm.ClassFile.FieldType), Jvm.Cond.code ({ cls := "com/example/carmine/carmine/RedBlack$Chain", name := "tree", desc := "(I)Lcom/example/carmine/carmine/Node;" } : Jvm.MethodName) prog_9_method_2_code (3 : Nat) (Option.some (Jvm.ClassFile.FieldType.object "com/example/carmine/carmine/Node")), Jvm.Cond.code ({ cls := "java/lang/Integer", name := "numberOfLeadingZeros", desc := "(I)I" } : Jvm.MethodName) jdk_33_method_47_code (2 : Nat) (Option.some Jvm.ClassFile.FieldType.int), Jvm.Cond.code ({ cls := "com/example/carmine/carmine/RedBlack$Links", name := "add", desc := "(Lcom/example/carmine/carmine/Node;)V" } : Jvm.MethodName) prog_10_method_2_code (2 : Nat) (Option.none : Option Jvm.ClassFile.FieldType), Jvm.Cond.code ({ cls := "com/example/carmine/carmine/RedBlack$Chain", name := "subtree", desc := "(II)Lcom/example/carmine/carmine/Node;" } : Jvm.MethodName) prog_9_method_3_code (7 : Nat) (Option.some (Jvm.ClassFile.FieldType.object "com/example/carmine/carmine/Node")), Jvm.Cond.code ({ cls := "com/example/carmine/carmine/RedBlack$Chain", name := "next", desc := "()Lcom/example/carmine/carmine/Node;" } : Jvm.MethodName) prog_9_method_5_code (2 : Nat) (Option.some (Jvm.ClassFile.FieldType.object "com/example/carmine/carmine/Node")), Jvm.Cond.code ({ cls := "com/example/carmine/carmine/RedBlack$Chain", name := "leaf", desc := "()Lcom/example/carmine/carmine/Node;" } : Jvm.MethodName) prog_9_method_4_code (2 : Nat) (Option.some (Jvm.ClassFile.FieldType.object "com/example/carmine/carmine/Node")), Jvm.Cond.code ({ cls := "com/example/carmine/carmine/Node", name := "setColoursAndSize", desc := "(ZZI)V" } : Jvm.MethodName) prog_7_method_11_code (4 : Nat) (Option.none : Option Jvm.ClassFile.FieldType), Jvm.Cond.code ({ cls := "java/lang/Integer", name := "<init>", desc := "(I)V" } : Jvm.MethodName) jdk_33_method_23_code (2 : Nat) (Option.none : Option Jvm.ClassFile.FieldType), Jvm.Cond.code ({ cls := "java/lang/Number", name := "<init>", desc := "()V" } : Jvm.MethodName) jdk_18_method_1_code (1 : Nat) (Option.none : Option Jvm.ClassFile.FieldType)]
set_option maxRecDepth 65536 in
theorem codes_eq : words1.filter isCode = codes1 := rfl
theorem w_codes : ∀ c ∈ words1.filter isCode, c.before args0 about1 = true := by
  rw [codes_eq]
  intro c hc
  simp only [codes1, List.mem_cons, List.not_mem_nil, or_false] at hc
  rcases hc with rfl | rfl | rfl | rfl | rfl | rfl | rfl | rfl | rfl | rfl | rfl | rfl | rfl | rfl | rfl | rfl | rfl | rfl | rfl
  · exact w_c0
  · exact w_c1
  · exact w_c2
  · exact w_c3
  · exact w_c4
  · exact w_c5
  · exact w_c6
  · exact w_c7
  · exact w_c8
  · exact w_c9
  · exact w_c10
  · exact w_c11
  · exact w_c12
  · exact w_c13
  · exact w_c14
  · exact w_c15
  · exact w_c16
  · exact w_c17
  · exact w_c18
set_option maxRecDepth 65536 in
theorem w_t1 : (words1.take 24).all (fun c => isCode c || c.before args0 about1) = true := by decide +kernel
set_option maxRecDepth 65536 in
theorem w_t2 : ((words1.drop 24).take 24).all (fun c => isCode c || c.before args0 about1) = true := by decide +kernel
set_option maxRecDepth 65536 in
theorem w_t3 : (((words1.drop 24).drop 24).take 24).all (fun c => isCode c || c.before args0 about1) = true := by decide +kernel
set_option maxRecDepth 65536 in
theorem w_t4 : ((((words1.drop 24).drop 24).drop 24).take 24).all (fun c => isCode c || c.before args0 about1) = true := by decide +kernel
set_option maxRecDepth 65536 in
theorem w_t5 : (((((words1.drop 24).drop 24).drop 24).drop 24).take 24).all (fun c => isCode c || c.before args0 about1) = true := by decide +kernel
set_option maxRecDepth 65536 in
theorem w_t6 : (((((words1.drop 24).drop 24).drop 24).drop 24).drop 24).all (fun c => isCode c || c.before args0 about1) = true := by decide +kernel
theorem w_tables : (allAtoms (Jvm.Cond.code x code maxLocals ret :: tables_1)).before args0 about1 = true := by
  rw [allAtoms_all]
  show words1.all (fun c => c.before args0 about1) = true
  refine all_split ?_ w_codes
  rw [← List.take_append_drop 24 words1, List.all_append, w_t1, ← List.take_append_drop 24 (words1.drop 24), List.all_append, w_t2, ← List.take_append_drop 24 ((words1.drop 24).drop 24), List.all_append, w_t3, ← List.take_append_drop 24 (((words1.drop 24).drop 24).drop 24), List.all_append, w_t4, ← List.take_append_drop 24 ((((words1.drop 24).drop 24).drop 24).drop 24), List.all_append, w_t5, w_t6]
  rfl
set_option maxRecDepth 65536 in
theorem w_rest : rest_1_c.before args0 about1 = true := by decide +kernel
set_option maxRecDepth 65536 in
theorem w_case : (Jvm.Cond.and given_1 narrow_1).before args0 about1 = true := by decide +kernel
theorem w_applies : (headSpec (Jvm.Cond.code x code maxLocals ret :: tables_1) room_1).applies x e0.platform about1 = true :=
  (Spec.applies_iff w_frames).mpr ⟨w_running, w_runnable, w_alone, w_named, w_hears, w_ripe, w_room, w_tables⟩
theorem atStart : AtStart classFile x code maxLocals ret World_1 tables_1 room_1 Calls_1 rest_1 Pre_1 launch0 p0 e0 about1 theMethod args0 below0 :=
  ⟨lists_1, trivial, launch0.admits_env _ _ _, launch0.least_env, fairChoices_fair.cas, fairChoices_fair.clock, w_frames, w_args, w_heap, w_applies, trivial, w_rest, w_case⟩
end start1
theorem witness_1 : WitnessClaimed_1 := ⟨start1.p0, start1.e0, start1.about1, start1.theMethod, start1.args0, start1.below0, start1.atStart⟩
end Jvm.Pilot.@@N@@
