import JvmDerived
import JvmDerived.Pilot.@@N@@Statement
import JvmDerived.Pilot.@@N@@Code
set_option linter.unusedVariables false
set_option linter.unusedSimpArgs false
namespace Jvm.RoadKit
open Sem ClassFile Op Lib Jvm.Stand Jvm.Free Jvm.LawKit
section New
variable {p : Program} {l : Launch} {e : Env} {R : Room} {s : State} {m : MethodId} {args : Array Value} {below : List Frame} {meth : Method} {c : Code} {T : State} {locs : List Loc} {cells slots : Nat}
theorem retI (X : Stand p l e R s m args below meth c T locs cells slots) (hx : p.tables.exec = Jvm.exec) {pc : Nat} {Ls : Array Slot} {z : Int32} {rest : List Value} (hret : meth.sig.returnType = some .int) (hd : decode c.code pc = .ok (.ireturn, 1)) {fs : List Frame}
    (hl : ∀ (f : JFrame) (acts : List Action), f.method = m → f.locked = none → f.entered = [] → (doReturn e (T.setTop f) acts (some (.int z))).1 = T.setFrames fs) : Steps p.tables e below (T.setTop (mkF m pc Ls (.int z :: rest))) (T.setFrames fs) := by
  have hm' : T.vm.method? m = some meth := X.method'
  have hn : narrow .int (.int z) = .int z := rfl
  show Steps p.tables e below (T.setTop { method := m, pc := pc, locals := Ls, stack := _ :: rest, locked := none }) _
  jvm_step X.here [X.here.top, hx, hd, hm', hret, hn]
  first | (intro acts; rw [hl _ acts rfl rfl rfl]) | rw [hl _ _ rfl rfl rfl]
  exact Steps.refl _
/-- the run goes on from here to an end of which P holds -/
def Go (tb : Tables) (e : Env) (below : List Frame) (T : State) (g : JFrame) (P : State → Prop) : Prop := ∃ U, Steps tb e below (T.setTop g) U ∧ P U
theorem go1 {tb : Tables} {T' : State} {g g' : JFrame} {P : State → Prop} (k : ∀ t, Steps tb e below (T'.setTop g') t → Steps tb e below (T.setTop g) t) (h : Go tb e below T' g' P) : Go tb e below T g P := by
  obtain ⟨U, h1, h2⟩ := h; exact ⟨U, k U h1, h2⟩
theorem goT {tb : Tables} {T' : State} {g g' : JFrame} {P : State → Prop} (k : Steps tb e below (T.setTop g) (T'.setTop g')) (h : Go tb e below T' g' P) : Go tb e below T g P := by
  obtain ⟨U, h1, h2⟩ := h; exact ⟨U, k.trans h1, h2⟩
theorem stp {tb : Tables} {T' t : State} {g g' : JFrame} (k : ∀ t, Steps tb e below (T'.setTop g') t → Steps tb e below (T.setTop g) t) (h : Steps tb e below (T'.setTop g') t) : Steps tb e below (T.setTop g) t := k t h
theorem goB {tb : Tables} {ml : Nat} {g : JFrame} {Qp : Outcome → State → Prop} (q : entryFrame m args ml = g) (h : Go tb e below T g (fun U => ∃ o, U.status = .running ∧ Ended U below o ∧ Qp o U)) :
    ∃ s₂ o, Steps tb e below (T.setTop (entryFrame m args ml)) s₂ ∧ s₂.status = .running ∧ Ended s₂ below o ∧ Qp o s₂ := by
  obtain ⟨U, h1, o, h2, h3, h4⟩ := h; exact ⟨U, o, q ▸ h1, h2, h3, h4⟩
theorem goR (X : Stand p l e R s m args below meth c T locs cells slots) (hlocks : meth.locks = false) {v : Option Value} (hv : meth.sig.returnType = none → v = none) {g : JFrame} {kc ks : Nat} (Q : Option Value → Heap → List Loc → Prop)
    (k : ∀ fs, (∀ (f : JFrame) (acts : List Action), f.method = m → f.locked = none → f.entered = [] → (doReturn e (T.setTop f) acts v).1 = T.setFrames fs) → Steps p.tables e below (T.setTop g) (T.setFrames fs)) (hc : cells ≤ kc) (hs : slots ≤ ks) (hq : Q v T.heap locs) :
    Go p.tables e below T g (fun U => ∃ o, U.status = .running ∧ Ended U below o ∧ ∃ v L, o = .returned v ∧ Q v U.heap L ∧ FrameEnd s o U L kc ks) := by
  obtain ⟨fs, hr, hrun, hended, hW, hsame⟩ := X.leave hv hlocks
  exact ⟨_, k fs hr, _, hrun, hended, _, _, rfl, hq, ⟨_, rfl⟩, hW, hsame.mono hc hs⟩
theorem fitsG {C : String} {u : Value} (h : u.isRef = true) : fits (.object C) u = true := by rcases ref_cases h with rfl | ⟨a, rfl⟩ <;> rfl
theorem selPriv {Z : State} {a0 : Array Value} {y : MethodName} {n : Nat} (hZ : Z.Warmed39 s.vm) (wi : (Cond.instantiable y.cls n).before a0 Z = true) (wp : (Cond.privateMethod y).before a0 Z = true) (wm : (Cond.instanceMethod y).before a0 Z = true) (hy : y.cls ≠ "java/lang/invoke/MethodHandle" ∧ y.cls ≠ "java/lang/invoke/VarHandle") : (Cond.selects y.cls y y).before args s = true := by
  obtain ⟨c, k, h1, h2, -, h4, -⟩ := Cond.instantiable_spec (show (Cond.instantiable y.cls n).before args s = true from mv hZ wi)
  have h5 : k.isInterface = false := by
    cases hq : k.isInterface
    · rfl
    · rw [hq] at h4; simp at h4
  exact selects_self_of_private h1 h2 h5 (Cond.privateMethod_at (mvP hZ wp (args := #[]))) (mv hZ wm) hy
theorem nsRoot {Z : State} {a0 : Array Value} {O K : String} {n : Nat} (w : (Cond.noSuperclass O).before a0 Z = true) (wk : (Cond.instantiable K n).before a0 Z = true) (hn : O ≠ K) : NS Z O K := by
  obtain ⟨c, k, h1, h2, h3, -⟩ := Cond.noSuperclass_spec w
  obtain ⟨t, kt, g1, -⟩ := Cond.instantiable_spec wk
  have ne := ids_ne h1 g1 hn
  exact ⟨c, t, h1, g1, fun fuel => by cases fuel <;> simp [Vm.isSubclassAux, ne, h2, h3]⟩
theorem nsNo {Z : State} {a0 : Array Value} {C S K : String} {n : Nat} (w : (Cond.superclass C S).before a0 Z = true) (wk : (Cond.instantiable K n).before a0 Z = true) (N : NS Z C K) (hn : C ≠ K) : ∃ c t, Z.vm.findClass C = some c ∧ Z.vm.findClass K = some t ∧ Z.vm.assignable c t = false := by
  obtain ⟨c, t, h0, g0, n3⟩ := N
  obtain ⟨pp, k, kp, -, h2, -, -, h5, -, -⟩ := Cond.superclass_spec h0 w
  obtain ⟨t', kt, g1, g2, g3, g4, -⟩ := Cond.instantiable_spec wk
  cases g0.symm.trans g1
  have ne := ids_ne h0 g0 hn
  have g5 : kt.isInterface = false := by
    cases hq : kt.isInterface
    · rfl
    · rw [hq] at g4; simp at g4
  refine ⟨c, t, h0, g0, ?_⟩
  show Z.vm.assignableAux (255 + 1) c t = false
  simp [Vm.assignableAux, ne, h2, g2, h5, g3, g5, Vm.isSubclass, n3]
theorem lenS {Z : State} {t : Term} {a : Addr} {cl : Cell} {n : Int32} {ty : FieldType} (ev : t.eval args Z none [] Z = some (.ref a)) (A : Arr Z Z.heap a cl ty) (h : (Term.length t).eval args Z none [] Z = some (.int n)) :
    cl.slots.size < 2 ^ 31 ∧ cl.slots.size.toInt32 = n ∧ cl.slots.size = n.toNatClampNeg ∧ ¬ n < 0 := by
  have ha := A.fin (Vm.Alike.refl _)
  by_cases q : cl.slots.size < 2 ^ 31
  · have e := len_f ev ha q
    rw [h] at e
    have e2 : n = cl.slots.size.toInt32 := by injection e with e; injection e
    have e3 := len_toInt q
    refine ⟨q, e2.symm, ?_, ?_⟩
    · rw [e2]; simp only [Int32.toNatClampNeg, e3]; rfl
    · rw [e2, Int32.lt_iff_toInt_lt, e3]; show ¬ (cl.slots.size : Int) < 0; omega
  · exfalso
    have q' : ¬ cl.slots.size < 2147483648 := q
    simp [Term.eval, ev, ha, q'] at h
end New
end Jvm.RoadKit
namespace Jvm.Pilot.@@N@@
open Jvm Jvm.ClassFile Sem Op Lib Jvm.Free Jvm.Stand Jvm.LawKit Jvm.RoadKit Bundle Jvm.Pilot.@@N@@.Jvm.D
theorem d7_0 : decode jdk_18_method_1_code 0 = .ok (.aload_n 0, 1) := by decide +kernel
theorem d7_1 : decode jdk_18_method_1_code 1 = .ok (.invokespecial 1, 3) := by decide +kernel
theorem d7_4 : decode jdk_18_method_1_code 4 = .ok (.return_, 1) := by decide +kernel
theorem pn_7 : plainName "java/lang/Number" = true := by first | (simp [plainName, overriddenIn]; done) | decide +kernel
theorem ef_7 (m : MethodId) (b1 : Addr) : entryFrame m #[(.ref b1)] 1 = mkF m 0 #[.val (.ref b1)] [] := by first | (simp [entryFrame, mkF, argsToLocals, Value.category]; done) | rfl
def Q7 (Z : State) (b1 : Addr) (h0 : Heap) (n0 : Nat) (v : Option Value) (h : Heap) (L : List Loc) : Prop := v = none ∧ Fr n0 L ∧ h = h0
set_option maxRecDepth 65536 in
set_option maxHeartbeats 40000000 in
theorem rm7 (l : Launch) (Z : State) (a0 : Array Value) (hw : ∀ d ∈ tables_1, d.before a0 Z = true) (ws : List Jvm.Cond) (b1 : Addr) (h0 : Heap) (n0 : Nat) (Z0 : n0 ≤ h0.size) :
    MetFree l (⟨"java/lang/Number", "<init>", "()V"⟩ : MethodName) (head1 (Jvm.Cond.code (⟨"java/lang/Number", "<init>", "()V"⟩ : MethodName) jdk_18_method_1_code 1 none :: ws) ({ frames := 1, cells := 0, slots := 0, locals := 12 } : Room)) (fun a U => a = #[(.ref b1)] ∧ Z.Warmed39 U.vm ∧ U.heap = h0) (fun _ _ _ _ _ => True) (fun _ U o U' => ∃ v L, o = .returned v ∧ Q7 Z b1 h0 n0 v U'.heap L ∧ FrameEnd U o U' L ({ frames := 1, cells := 0, slots := 0, locals := 12 } : Room).cells ({ frames := 1, cells := 0, slots := 0, locals := 12 } : Room).slots) := by
  refine MetFree.of_bodySF (plainFor_of_name pn_7) hisR ?_
  intro p e s m args below meth c s₁ Bd hml0 hP hK
  obtain ⟨rfl, hZ, hh⟩ := hP
  have hx := Bd.exec
  have hby := Bd.bytes
  have hml : c.maxLocals = 1 := hml0
  have hown : s.vm.findClass "java/lang/Number" = some m.cls := findClass_of_methodNamed Bd.named
  have hnm := (name_of_methodNamed Bd.named Bd.method).1
  have X0 : Stand p l e ({ frames := 1, cells := 0, slots := 0, locals := 12 } : Room) s m #[(.ref b1)] below meth c s₁ [] 0 0 := Stand.of_body Bd
  have e0 : s₁.heap = h0 := by rw [← hh, Bd.state]; rfl
  have N0 := Fr.nil n0
  refine goB (ef_7 m b1) ?_
  show Go p.tables e below s₁ (mkF m 0 #[.val (.ref b1)] []) _
  refine go1 (fun _ => XS.aloadN X0.here hx rfl (hb hby d7_0) rfl rfl) ?_
  show Go p.tables e below s₁ (mkF m 1 #[.val (.ref b1)] [(.ref b1)]) _
  obtain ⟨T1, X1, e1, st1⟩ := initO X0 hx hZ hown (hw _ (List.mem_of_getElem? (i := 49) rfl)) (hw _ (List.mem_of_getElem? (i := 12) rfl)) (hw _ (List.mem_of_getElem? (i := 13) rfl)) e0 (g := (mkF m 1 #[.val (.ref b1)] [(.ref b1)])) rfl (by rw [hml]; rfl) rfl (hb hby d7_1) (by decide) (W := 0) (by show 2 * 0 + _ ≤ _; exact Nat.le_of_eq rfl) (by decide)
  refine go1 st1 ?_
  show Go p.tables e below T1 (mkF m 4 #[.val (.ref b1)] []) _
  refine goR X1 (BodyLoose.notSynchronized Bd) (v := none) (fun _ => rfl) (Q7 Z b1 h0 n0) (fun fs hr => X1.returnOut hx Bd.returns (hb hby d7_4) hr) (by decide) (by decide) ?_
  show Q7 Z b1 h0 n0 _ T1.heap _
  rw [e1]
  exact ⟨rfl, N0, rfl⟩
theorem d2_0 : decode jdk_30_method_1_code 0 = .ok (.aload_n 0, 1) := by decide +kernel
theorem d2_1 : decode jdk_30_method_1_code 1 = .ok (.invokespecial 1, 3) := by decide +kernel
theorem d2_4 : decode jdk_30_method_1_code 4 = .ok (.return_, 1) := by decide +kernel
theorem pn_2 : plainName "java/lang/Record" = true := by first | (simp [plainName, overriddenIn]; done) | decide +kernel
theorem ef_2 (m : MethodId) (b1 : Addr) : entryFrame m #[(.ref b1)] 1 = mkF m 0 #[.val (.ref b1)] [] := by first | (simp [entryFrame, mkF, argsToLocals, Value.category]; done) | rfl
def Q2 (Z : State) (b1 : Addr) (h0 : Heap) (n0 : Nat) (v : Option Value) (h : Heap) (L : List Loc) : Prop := v = none ∧ Fr n0 L ∧ h = h0
set_option maxRecDepth 65536 in
set_option maxHeartbeats 40000000 in
theorem rm2 (l : Launch) (Z : State) (a0 : Array Value) (hw : ∀ d ∈ tables_1, d.before a0 Z = true) (ws : List Jvm.Cond) (b1 : Addr) (h0 : Heap) (n0 : Nat) (Z0 : n0 ≤ h0.size) :
    MetFree l (⟨"java/lang/Record", "<init>", "()V"⟩ : MethodName) (head1 (Jvm.Cond.code (⟨"java/lang/Record", "<init>", "()V"⟩ : MethodName) jdk_30_method_1_code 1 none :: ws) ({ frames := 1, cells := 0, slots := 0, locals := 12 } : Room)) (fun a U => a = #[(.ref b1)] ∧ Z.Warmed39 U.vm ∧ U.heap = h0) (fun _ _ _ _ _ => True) (fun _ U o U' => ∃ v L, o = .returned v ∧ Q2 Z b1 h0 n0 v U'.heap L ∧ FrameEnd U o U' L ({ frames := 1, cells := 0, slots := 0, locals := 12 } : Room).cells ({ frames := 1, cells := 0, slots := 0, locals := 12 } : Room).slots) := by
  refine MetFree.of_bodySF (plainFor_of_name pn_2) hisR ?_
  intro p e s m args below meth c s₁ Bd hml0 hP hK
  obtain ⟨rfl, hZ, hh⟩ := hP
  have hx := Bd.exec
  have hby := Bd.bytes
  have hml : c.maxLocals = 1 := hml0
  have hown : s.vm.findClass "java/lang/Record" = some m.cls := findClass_of_methodNamed Bd.named
  have hnm := (name_of_methodNamed Bd.named Bd.method).1
  have X0 : Stand p l e ({ frames := 1, cells := 0, slots := 0, locals := 12 } : Room) s m #[(.ref b1)] below meth c s₁ [] 0 0 := Stand.of_body Bd
  have e0 : s₁.heap = h0 := by rw [← hh, Bd.state]; rfl
  have N0 := Fr.nil n0
  refine goB (ef_2 m b1) ?_
  show Go p.tables e below s₁ (mkF m 0 #[.val (.ref b1)] []) _
  refine go1 (fun _ => XS.aloadN X0.here hx rfl (hb hby d2_0) rfl rfl) ?_
  show Go p.tables e below s₁ (mkF m 1 #[.val (.ref b1)] [(.ref b1)]) _
  obtain ⟨T1, X1, e1, st1⟩ := initO X0 hx hZ hown (hw _ (List.mem_of_getElem? (i := 11) rfl)) (hw _ (List.mem_of_getElem? (i := 12) rfl)) (hw _ (List.mem_of_getElem? (i := 13) rfl)) e0 (g := (mkF m 1 #[.val (.ref b1)] [(.ref b1)])) rfl (by rw [hml]; rfl) rfl (hb hby d2_1) (by decide) (W := 0) (by show 2 * 0 + _ ≤ _; exact Nat.le_of_eq rfl) (by decide)
  refine go1 st1 ?_
  show Go p.tables e below T1 (mkF m 4 #[.val (.ref b1)] []) _
  refine goR X1 (BodyLoose.notSynchronized Bd) (v := none) (fun _ => rfl) (Q2 Z b1 h0 n0) (fun fs hr => X1.returnOut hx Bd.returns (hb hby d2_4) hr) (by decide) (by decide) ?_
  show Q2 Z b1 h0 n0 _ T1.heap _
  rw [e1]
  exact ⟨rfl, N0, rfl⟩
theorem own_lng (p : Int64) (h1 : ¬ p < (-128 : Int64)) (h2 : ¬ (127 : Int64) < p) : (¬ (p.toInt32 + (128 : Int32)) < 0 ∧ (p.toInt32 + (128 : Int32)) < (256 : Int32)) ∧ ((p.toInt32 + (128 : Int32)) - (128 : Int32)).toInt64 = p := by
  have k1 := mt Int64.lt_iff_toInt_lt.mpr h1
  have k2 := mt Int64.lt_iff_toInt_lt.mpr h2
  have m1 : (-128 : Int64).toInt = -128 := by decide
  have m2 : (127 : Int64).toInt = 127 := by decide
  have c0 := c_l2i p
  have r0 := rng32 p.toInt32
  have c1 := c_iadd p.toInt32 (128 : Int32)
  have r1 := rng32 (p.toInt32 + (128 : Int32))
  have c2 := c_isub (p.toInt32 + (128 : Int32)) (128 : Int32)
  have r2 := rng32 ((p.toInt32 + (128 : Int32)) - (128 : Int32))
  have c3 := c_i2l ((p.toInt32 + (128 : Int32)) - (128 : Int32))
  have l1 : (128 : Int32).toInt = 128 := by decide
  have l4 : (256 : Int32).toInt = 256 := by decide
  have l5 : (0 : Int32).toInt = 0 := by decide
  refine ⟨?_, ?_⟩
  · rw [Int32.lt_iff_toInt_lt, Int32.lt_iff_toInt_lt]
    omega
  · rw [← Int64.toInt_inj]
    omega
theorem d6_0 : decode jdk_35_method_26_code 0 = .ok (.aload_n 0, 1) := by decide +kernel
theorem d6_1 : decode jdk_35_method_26_code 1 = .ok (.invokespecial 270, 3) := by decide +kernel
theorem d6_4 : decode jdk_35_method_26_code 4 = .ok (.aload_n 0, 1) := by decide +kernel
theorem d6_5 : decode jdk_35_method_26_code 5 = .ok (.lload_n 1, 1) := by decide +kernel
theorem d6_6 : decode jdk_35_method_26_code 6 = .ok (.putfield 273, 3) := by decide +kernel
theorem d6_9 : decode jdk_35_method_26_code 9 = .ok (.return_, 1) := by decide +kernel
theorem pn_6 : plainName "java/lang/Long" = true := by first | (simp [plainName, overriddenIn]; done) | decide +kernel
theorem pd6_0 : parseMethodDescriptor "()V" = some ⟨[], none⟩ := by decide +kernel
theorem ef_6 (m : MethodId) (b1 : Addr) (p1 : Int64) : entryFrame m #[(.ref b1), (.long p1)] 3 = mkF m 0 #[.val (.ref b1), .val (.long p1), .second] [] := by first | (simp [entryFrame, mkF, argsToLocals, Value.category]; done) | rfl
def Q6 (Z : State) (b1 : Addr) (p1 : Int64) (h0 : Heap) (n0 : Nat) (v : Option Value) (h : Heap) (L : List Loc) : Prop := v = none ∧ Fr n0 L ∧ Keep h0 h [b1] ∧ Exa Z h b1 "java/lang/Long" ∧ Fld Z h b1 "java/lang/Long" "value" "J" (.long p1)
set_option maxRecDepth 65536 in
set_option maxHeartbeats 40000000 in
theorem rm6 (l : Launch) (Z : State) (a0 : Array Value) (hw : ∀ d ∈ tables_1, d.before a0 Z = true) (ws : List Jvm.Cond) (b1 : Addr) (p1 : Int64) (h0 : Heap) (n0 : Nat) (Z0 : n0 ≤ h0.size) (F_value_b1 : Fld Z h0 b1 "java/lang/Long" "value" "J" (.long (0 : Int64))) (E_b1 : Exa Z h0 b1 "java/lang/Long") (g_b1 : n0 ≤ b1) :
    MetFree l (⟨"java/lang/Long", "<init>", "(J)V"⟩ : MethodName) (head1 (Jvm.Cond.code (⟨"java/lang/Long", "<init>", "(J)V"⟩ : MethodName) jdk_35_method_26_code 3 none :: ws) ({ frames := 2, cells := 0, slots := 0, locals := 24 } : Room)) (fun a U => a = #[(.ref b1), (.long p1)] ∧ Z.Warmed39 U.vm ∧ U.heap = h0) (fun _ _ _ _ _ => True) (fun _ U o U' => ∃ v L, o = .returned v ∧ Q6 Z b1 p1 h0 n0 v U'.heap L ∧ FrameEnd U o U' L ({ frames := 2, cells := 0, slots := 0, locals := 24 } : Room).cells ({ frames := 2, cells := 0, slots := 0, locals := 24 } : Room).slots) := by
  refine MetFree.of_bodySF (plainFor_of_name pn_6) hisR ?_
  intro p e s m args below meth c s₁ Bd hml0 hP hK
  obtain ⟨rfl, hZ, hh⟩ := hP
  have hx := Bd.exec
  have hby := Bd.bytes
  have hml : c.maxLocals = 3 := hml0
  have hown : s.vm.findClass "java/lang/Long" = some m.cls := findClass_of_methodNamed Bd.named
  have hnm := (name_of_methodNamed Bd.named Bd.method).1
  have X0 : Stand p l e ({ frames := 2, cells := 0, slots := 0, locals := 24 } : Room) s m #[(.ref b1), (.long p1)] below meth c s₁ [] 0 0 := Stand.of_body Bd
  have e0 : s₁.heap = h0 := by rw [← hh, Bd.state]; rfl
  have N0 := Fr.nil n0
  refine goB (ef_6 m b1 p1) ?_
  show Go p.tables e below s₁ (mkF m 0 #[.val (.ref b1), .val (.long p1), .second] []) _
  refine go1 (fun _ => XS.aloadN X0.here hx rfl (hb hby d6_0) rfl rfl) ?_
  show Go p.tables e below s₁ (mkF m 1 #[.val (.ref b1), .val (.long p1), .second] [(.ref b1)]) _
  obtain ⟨_, _, ⟨T1, L1, k1, n1⟩, -, X1, ⟨Lc1, hQ1, l1, y1, z1⟩, st1⟩ := X0.specialBack hx (y := (⟨"java/lang/Number", "<init>", "()V"⟩ : MethodName)) rfl hown (mvT hZ (hw _ (List.mem_of_getElem? (i := 43) rfl))) (mvT hZ (hw _ (List.mem_of_getElem? (i := 44) rfl))) (mvT hZ (hw _ (List.mem_of_getElem? (i := 48) rfl))) (by decide) (backOf (W := 0) (rm7 l Z a0 hw [] b1 h0 n0 Z0 ) hZ (hw _ (List.mem_of_getElem? (i := 48) rfl)) (hw _ (List.mem_of_getElem? (i := 47) rfl)) (by decide) (by decide)) (g := (mkF m 1 #[.val (.ref b1), .val (.long p1), .second] [(.ref b1)])) rfl (by rw [hml]; rfl) (Steps.refl _) (a := b1) (argsL := []) (rest := []) (lenOf pd6_0 rfl) rfl (by show 2 * 0 + _ ≤ _; exact Nat.le_of_eq rfl) (hb hby d6_1) (fun _ _ => ⟨rfl, e0, (by decide : 0 + 0 ≤ _), (by decide : 0 + 0 ≤ _)⟩)
  dsimp only [Pt.U, Pt.locs, Pt.cells, Pt.slots] at X1 l1 y1 z1 st1 hQ1
  subst l1 y1 z1
  obtain ⟨rfl, N1q, e1⟩ := hQ1
  have N1 := Fr.app N0 N1q
  refine goT st1 ?_
  show Go p.tables e below T1 (mkF m 4 #[.val (.ref b1), .val (.long p1), .second] []) _
  refine go1 (fun _ => XS.aloadN X1.here hx rfl (hb hby d6_4) rfl rfl) ?_
  show Go p.tables e below T1 (mkF m 5 #[.val (.ref b1), .val (.long p1), .second] [(.ref b1)]) _
  refine go1 (fun _ => XS.lloadN X1.here hx rfl (hb hby d6_5) rfl) ?_
  show Go p.tables e below T1 (mkF m 6 #[.val (.ref b1), .val (.long p1), .second] [(.long p1), (.ref b1)]) _
  obtain ⟨T2, h2, X2, e2, W2, st2⟩ := putF X1 hx hZ hown (host := "") (Or.inl (hw _ (List.mem_of_getElem? (i := 50) rfl))) Via.refl e1 F_value_b1 E_b1 (Or.inr ⟨(hw _ (List.mem_of_getElem? (i := 51) rfl)), rfl, hnm⟩) (hw _ (List.mem_of_getElem? (i := 38) rfl)) (ty := .long) (by decide) rfl rfl (g := (mkF m 6 #[.val (.ref b1), .val (.long p1), .second] [(.long p1), (.ref b1)])) rfl rfl (hb hby d6_6)
  refine go1 st2 ?_
  have Fw2 := F_value_b1.same W2
  have N2 := Fr.snoc X2 N1 g_b1
  show Go p.tables e below T2 (mkF m 9 #[.val (.ref b1), .val (.long p1), .second] []) _
  refine goR X2 (BodyLoose.notSynchronized Bd) (v := none) (fun _ => rfl) (Q6 Z b1 p1 h0 n0) (fun fs hr => X2.returnOut hx Bd.returns (hb hby d6_9) hr) (by decide) (by decide) ?_
  show Q6 Z b1 p1 h0 n0 _ T2.heap _
  rw [e2]
  exact ⟨rfl, N2, ((Keep.refl h0 [b1]).wr W2 (Or.inl (List.mem_of_getElem? (i := 0) rfl))), (E_b1.wr W2), Fw2⟩
theorem d5_0 : decode jdk_35_method_24_code 0 = .ok (.sipush 128, 3) := by decide +kernel
theorem d5_3 : decode jdk_35_method_24_code 3 = .ok (.istore_n 2, 1) := by decide +kernel
theorem d5_4 : decode jdk_35_method_24_code 4 = .ok (.lload_n 0, 1) := by decide +kernel
theorem d5_5 : decode jdk_35_method_24_code 5 = .ok (.ldc2_w 230, 3) := by decide +kernel
theorem d5_8 : decode jdk_35_method_24_code 8 = .ok (.lcmp, 1) := by decide +kernel
theorem d5_9 : decode jdk_35_method_24_code 9 = .ok (.ifCond .lt 22, 3) := by decide +kernel
theorem d5_12 : decode jdk_35_method_24_code 12 = .ok (.lload_n 0, 1) := by decide +kernel
theorem d5_13 : decode jdk_35_method_24_code 13 = .ok (.ldc2_w 232, 3) := by decide +kernel
theorem d5_16 : decode jdk_35_method_24_code 16 = .ok (.lcmp, 1) := by decide +kernel
theorem d5_17 : decode jdk_35_method_24_code 17 = .ok (.ifCond .gt 14, 3) := by decide +kernel
theorem d5_20 : decode jdk_35_method_24_code 20 = .ok (.getstatic 234, 3) := by decide +kernel
theorem d5_23 : decode jdk_35_method_24_code 23 = .ok (.lload_n 0, 1) := by decide +kernel
theorem d5_24 : decode jdk_35_method_24_code 24 = .ok (.l2i, 1) := by decide +kernel
theorem d5_25 : decode jdk_35_method_24_code 25 = .ok (.sipush 128, 3) := by decide +kernel
theorem d5_28 : decode jdk_35_method_24_code 28 = .ok (.iadd, 1) := by decide +kernel
theorem d5_29 : decode jdk_35_method_24_code 29 = .ok (.aaload, 1) := by decide +kernel
theorem d5_30 : decode jdk_35_method_24_code 30 = .ok (.areturn, 1) := by decide +kernel
theorem d5_31 : decode jdk_35_method_24_code 31 = .ok (.new 1, 3) := by decide +kernel
theorem d5_34 : decode jdk_35_method_24_code 34 = .ok (.dup, 1) := by decide +kernel
theorem d5_35 : decode jdk_35_method_24_code 35 = .ok (.lload_n 0, 1) := by decide +kernel
theorem d5_36 : decode jdk_35_method_24_code 36 = .ok (.invokespecial 240, 3) := by decide +kernel
theorem d5_39 : decode jdk_35_method_24_code 39 = .ok (.areturn, 1) := by decide +kernel
theorem pn_5 : plainName "java/lang/Long" = true := by first | (simp [plainName, overriddenIn]; done) | decide +kernel
theorem pd5_0 : parseMethodDescriptor "(J)V" = some ⟨[.long], none⟩ := by decide +kernel
theorem ef_5 (m : MethodId) (p1 : Int64) : entryFrame m #[(.long p1)] 3 = mkF m 0 #[.val (.long p1), .second, .unset] [] := by first | (simp [entryFrame, mkF, argsToLocals, Value.category]; done) | rfl
def Q5 (Z : State) (p1 : Int64) (a_cache : Addr) (h0 : Heap) (n0 : Nat) (v : Option Value) (h : Heap) (L : List Loc) : Prop := ∃ (b : Addr), v = some (.ref b) ∧ Fr n0 L ∧ Keep h0 h [] ∧ Exa Z h b "java/lang/Long" ∧ Fld Z h b "java/lang/Long" "value" "J" (.long p1)
set_option maxRecDepth 65536 in
set_option maxHeartbeats 40000000 in
theorem rm5 (l : Launch) (Z : State) (a0 : Array Value) (hw : ∀ d ∈ tables_1, d.before a0 Z = true) (ws : List Jvm.Cond) (p1 : Int64) (a_cache : Addr) (h0 : Heap) (n0 : Nat) (Z0 : n0 ≤ h0.size) (O0 : Old Z n0 h0) (S_cache : Sta Z Z.heap "java/lang/Long$LongCache" "cache" "[Ljava/lang/Long;" (.ref a_cache)) (BX_a_cache : ∃ cB : Cell, Bxs Z a_cache cB "java/lang/Long" "J" (256 : Int32) (fun j => .long (j - (128 : Int32)).toInt64)) :
    MetFree l (⟨"java/lang/Long", "valueOf", "(J)Ljava/lang/Long;"⟩ : MethodName) (head1 (Jvm.Cond.code (⟨"java/lang/Long", "valueOf", "(J)Ljava/lang/Long;"⟩ : MethodName) jdk_35_method_24_code 3 (some (.object "java/lang/Long")) :: ws) ({ frames := 3, cells := 1, slots := 1, locals := 39 } : Room)) (fun a U => a = #[(.long p1)] ∧ Z.Warmed39 U.vm ∧ U.heap = h0) (fun _ _ _ _ _ => True) (fun _ U o U' => ∃ v L, o = .returned v ∧ Q5 Z p1 a_cache h0 n0 v U'.heap L ∧ FrameEnd U o U' L ({ frames := 3, cells := 1, slots := 1, locals := 39 } : Room).cells ({ frames := 3, cells := 1, slots := 1, locals := 39 } : Room).slots) := by
  refine MetFree.of_bodySF (plainFor_of_name pn_5) hisR ?_
  intro p e s m args below meth c s₁ Bd hml0 hP hK
  obtain ⟨rfl, hZ, hh⟩ := hP
  have hx := Bd.exec
  have hby := Bd.bytes
  have hml : c.maxLocals = 3 := hml0
  have hown : s.vm.findClass "java/lang/Long" = some m.cls := findClass_of_methodNamed Bd.named
  have hnm := (name_of_methodNamed Bd.named Bd.method).1
  have X0 : Stand p l e ({ frames := 3, cells := 1, slots := 1, locals := 39 } : Room) s m #[(.long p1)] below meth c s₁ [] 0 0 := Stand.of_body Bd
  have e0 : s₁.heap = h0 := by rw [← hh, Bd.state]; rfl
  have N0 := Fr.nil n0
  refine goB (ef_5 m p1) ?_
  show Go p.tables e below s₁ (mkF m 0 #[.val (.long p1), .second, .unset] []) _
  refine go1 (fun _ => XS.sipush X0.here hx rfl (hb hby d5_0)) ?_
  show Go p.tables e below s₁ (mkF m 3 #[.val (.long p1), .second, .unset] [(.int (128 : Int32))]) _
  refine go1 (fun _ => XS.istoreN X0.here hx rfl (hb hby d5_3) rfl (l' := #[.val (.long p1), .second, .val (.int (128 : Int32))]) rfl) ?_
  show Go p.tables e below s₁ (mkF m 4 #[.val (.long p1), .second, .val (.int (128 : Int32))] []) _
  refine go1 (fun _ => XS.lloadN X0.here hx rfl (hb hby d5_4) rfl) ?_
  show Go p.tables e below s₁ (mkF m 5 #[.val (.long p1), .second, .val (.int (128 : Int32))] [(.long p1)]) _
  refine go1 (X0.ldc2Long hx hown (mvT hZ (hw _ (List.mem_of_getElem? (i := 30) rfl))) (g := (mkF m 5 #[.val (.long p1), .second, .val (.int (128 : Int32))] [(.long p1)])) rfl (hb hby d5_5)) ?_
  show Go p.tables e below s₁ (mkF m 8 #[.val (.long p1), .second, .val (.int (128 : Int32))] [(.long (-128 : Int64)), (.long p1)]) _
  refine go1 (fun _ => XS.lcmp X0.here hx rfl (hb hby d5_8) rfl) ?_
  show Go p.tables e below s₁ (mkF m 9 #[.val (.long p1), .second, .val (.int (128 : Int32))] [(.int (lcmpW p1 (-128 : Int64)))]) _
  by_cases hc1 : p1 < (-128 : Int64)
  · skip
    refine go1 (fun _ => XS.ifYes X0.here hx rfl (pc0 := 9) (pc' := 31) rfl (hb hby d5_9) rfl ((if0 _ _).trans (tlt ((lw_lt _ _).mpr hc1)).1) (by decide) (by decide)) ?_
    show Go p.tables e below s₁ (mkF m 31 #[.val (.long p1), .second, .val (.int (128 : Int32))] []) _
    obtain ⟨T2, h2, X2, e2, E2, A2, D2, -, st2⟩ := newO X0 hx hZ hown (hw _ (List.mem_of_getElem? (i := 37) rfl)) (hw _ (List.mem_of_getElem? (i := 38) rfl)) (hw _ (List.mem_of_getElem? (i := 28) rfl)) e0 (g := (mkF m 31 #[.val (.long p1), .second, .val (.int (128 : Int32))] [])) rfl (hb hby d5_31) (by decide) (by decide)
    obtain ⟨b2, g2⟩ : ∃ z, z = h0.size := ⟨_, rfl⟩
    rw [← g2] at A2 D2 st2
    have g_b2 : n0 ≤ b2 := Nat.le_trans Z0 (Nat.le_of_eq g2.symm)
    have F_value_b2 : Fld Z h2 b2 "java/lang/Long" "value" "J" (.long (0 : Int64)) := D2 (Or.inr (hw _ (List.mem_of_getElem? (i := 51) rfl))) (ty := .long) (by decide)
    refine go1 st2 ?_
    show Go p.tables e below T2 (mkF m 34 #[.val (.long p1), .second, .val (.int (128 : Int32))] [(.ref b2)]) _
    refine go1 (fun _ => XS.dup X2.here hx rfl (hb hby d5_34) rfl rfl) ?_
    show Go p.tables e below T2 (mkF m 35 #[.val (.long p1), .second, .val (.int (128 : Int32))] [(.ref b2), (.ref b2)]) _
    refine go1 (fun _ => XS.lloadN X2.here hx rfl (hb hby d5_35) rfl) ?_
    show Go p.tables e below T2 (mkF m 36 #[.val (.long p1), .second, .val (.int (128 : Int32))] [(.long p1), (.ref b2), (.ref b2)]) _
    obtain ⟨_, _, ⟨T3, L3, k3, n3⟩, -, X3, ⟨Lc3, hQ3, l3, y3, z3⟩, st3⟩ := X2.specialBack hx (y := (⟨"java/lang/Long", "<init>", "(J)V"⟩ : MethodName)) rfl hown (mvT hZ (hw _ (List.mem_of_getElem? (i := 39) rfl))) (mvT hZ (hw _ (List.mem_of_getElem? (i := 40) rfl))) (mvT hZ (hw _ (List.mem_of_getElem? (i := 42) rfl))) (by decide) (backOf (W := 1) (rm6 l Z a0 hw [] b2 p1 h2 n0 (Nat.le_trans Z0 E2.1) F_value_b2 A2 g_b2) hZ (hw _ (List.mem_of_getElem? (i := 42) rfl)) (hw _ (List.mem_of_getElem? (i := 28) rfl)) (by decide) (by decide)) (g := (mkF m 36 #[.val (.long p1), .second, .val (.int (128 : Int32))] [(.long p1), (.ref b2), (.ref b2)])) rfl (by rw [hml]; rfl) (Steps.refl _) (a := b2) (argsL := [(.long p1)]) (rest := [(.ref b2)]) (lenOf pd5_0 rfl) rfl (by show 2 * 0 + _ ≤ _; exact Nat.le_of_eq rfl) (hb hby d5_36) (fun _ _ => ⟨rfl, e2, (by decide : 1 + 0 ≤ _), (by decide : 1 + 0 ≤ _)⟩)
    dsimp only [Pt.U, Pt.locs, Pt.cells, Pt.slots] at X3 l3 y3 z3 st3 hQ3
    subst l3 y3 z3
    obtain ⟨rfl, N3q, K3, G3_0, G3_1⟩ := hQ3
    have N3 := Fr.app N0 N3q
    refine goT st3 ?_
    show Go p.tables e below T3 (mkF m 39 #[.val (.long p1), .second, .val (.int (128 : Int32))] [(.ref b2)]) _
    refine goR X3 (BodyLoose.notSynchronized Bd) (v := (some (.ref b2))) (fun h => by rw [Bd.returns] at h; cases h) (Q5 Z p1 a_cache h0 n0) (fun fs hr => retOut X3 hx (t := (.object "java/lang/Long")) (w := (.ref b2)) Bd.returns rfl (Or.inr (Or.inr (Or.inr (Or.inr ⟨rfl, rfl, rfl⟩)))) (hb hby d5_39) hr) (by decide) (by decide) ?_
    show Q5 Z p1 a_cache h0 n0 _ T3.heap _
    exact ⟨b2, rfl, N3, (((Keep.refl h0 []).ext E2).trans K3 (allS (Or.inr (Nat.le_trans (Nat.le_refl h0.size) (Nat.le_of_eq g2.symm))) all0)), G3_0, G3_1⟩
  · skip
    refine go1 (fun _ => XS.ifNo X0.here hx rfl (hb hby d5_9) rfl ((if0 _ _).trans (flt (mt (lw_lt _ _).mp hc1)).1)) ?_
    show Go p.tables e below s₁ (mkF m 12 #[.val (.long p1), .second, .val (.int (128 : Int32))] []) _
    refine go1 (fun _ => XS.lloadN X0.here hx rfl (hb hby d5_12) rfl) ?_
    show Go p.tables e below s₁ (mkF m 13 #[.val (.long p1), .second, .val (.int (128 : Int32))] [(.long p1)]) _
    refine go1 (X0.ldc2Long hx hown (mvT hZ (hw _ (List.mem_of_getElem? (i := 31) rfl))) (g := (mkF m 13 #[.val (.long p1), .second, .val (.int (128 : Int32))] [(.long p1)])) rfl (hb hby d5_13)) ?_
    show Go p.tables e below s₁ (mkF m 16 #[.val (.long p1), .second, .val (.int (128 : Int32))] [(.long (127 : Int64)), (.long p1)]) _
    refine go1 (fun _ => XS.lcmp X0.here hx rfl (hb hby d5_16) rfl) ?_
    show Go p.tables e below s₁ (mkF m 17 #[.val (.long p1), .second, .val (.int (128 : Int32))] [(.int (lcmpW p1 (127 : Int64)))]) _
    by_cases hc4 : (127 : Int64) < p1
    · skip
      refine go1 (fun _ => XS.ifYes X0.here hx rfl (pc0 := 17) (pc' := 31) rfl (hb hby d5_17) rfl ((if0 _ _).trans (tlt ((lw_gt _ _).mpr hc4)).2.2.1) (by decide) (by decide)) ?_
      show Go p.tables e below s₁ (mkF m 31 #[.val (.long p1), .second, .val (.int (128 : Int32))] []) _
      obtain ⟨T5, h5, X5, e5, E5, A5, D5, -, st5⟩ := newO X0 hx hZ hown (hw _ (List.mem_of_getElem? (i := 37) rfl)) (hw _ (List.mem_of_getElem? (i := 38) rfl)) (hw _ (List.mem_of_getElem? (i := 28) rfl)) e0 (g := (mkF m 31 #[.val (.long p1), .second, .val (.int (128 : Int32))] [])) rfl (hb hby d5_31) (by decide) (by decide)
      obtain ⟨b5, g5⟩ : ∃ z, z = h0.size := ⟨_, rfl⟩
      rw [← g5] at A5 D5 st5
      have g_b5 : n0 ≤ b5 := Nat.le_trans Z0 (Nat.le_of_eq g5.symm)
      have F_value_b5 : Fld Z h5 b5 "java/lang/Long" "value" "J" (.long (0 : Int64)) := D5 (Or.inr (hw _ (List.mem_of_getElem? (i := 51) rfl))) (ty := .long) (by decide)
      refine go1 st5 ?_
      show Go p.tables e below T5 (mkF m 34 #[.val (.long p1), .second, .val (.int (128 : Int32))] [(.ref b5)]) _
      refine go1 (fun _ => XS.dup X5.here hx rfl (hb hby d5_34) rfl rfl) ?_
      show Go p.tables e below T5 (mkF m 35 #[.val (.long p1), .second, .val (.int (128 : Int32))] [(.ref b5), (.ref b5)]) _
      refine go1 (fun _ => XS.lloadN X5.here hx rfl (hb hby d5_35) rfl) ?_
      show Go p.tables e below T5 (mkF m 36 #[.val (.long p1), .second, .val (.int (128 : Int32))] [(.long p1), (.ref b5), (.ref b5)]) _
      obtain ⟨_, _, ⟨T6, L6, k6, n6⟩, -, X6, ⟨Lc6, hQ6, l6, y6, z6⟩, st6⟩ := X5.specialBack hx (y := (⟨"java/lang/Long", "<init>", "(J)V"⟩ : MethodName)) rfl hown (mvT hZ (hw _ (List.mem_of_getElem? (i := 39) rfl))) (mvT hZ (hw _ (List.mem_of_getElem? (i := 40) rfl))) (mvT hZ (hw _ (List.mem_of_getElem? (i := 42) rfl))) (by decide) (backOf (W := 1) (rm6 l Z a0 hw [] b5 p1 h5 n0 (Nat.le_trans Z0 E5.1) F_value_b5 A5 g_b5) hZ (hw _ (List.mem_of_getElem? (i := 42) rfl)) (hw _ (List.mem_of_getElem? (i := 28) rfl)) (by decide) (by decide)) (g := (mkF m 36 #[.val (.long p1), .second, .val (.int (128 : Int32))] [(.long p1), (.ref b5), (.ref b5)])) rfl (by rw [hml]; rfl) (Steps.refl _) (a := b5) (argsL := [(.long p1)]) (rest := [(.ref b5)]) (lenOf pd5_0 rfl) rfl (by show 2 * 0 + _ ≤ _; exact Nat.le_of_eq rfl) (hb hby d5_36) (fun _ _ => ⟨rfl, e5, (by decide : 1 + 0 ≤ _), (by decide : 1 + 0 ≤ _)⟩)
      dsimp only [Pt.U, Pt.locs, Pt.cells, Pt.slots] at X6 l6 y6 z6 st6 hQ6
      subst l6 y6 z6
      obtain ⟨rfl, N6q, K6, G6_0, G6_1⟩ := hQ6
      have N6 := Fr.app N0 N6q
      refine goT st6 ?_
      show Go p.tables e below T6 (mkF m 39 #[.val (.long p1), .second, .val (.int (128 : Int32))] [(.ref b5)]) _
      refine goR X6 (BodyLoose.notSynchronized Bd) (v := (some (.ref b5))) (fun h => by rw [Bd.returns] at h; cases h) (Q5 Z p1 a_cache h0 n0) (fun fs hr => retOut X6 hx (t := (.object "java/lang/Long")) (w := (.ref b5)) Bd.returns rfl (Or.inr (Or.inr (Or.inr (Or.inr ⟨rfl, rfl, rfl⟩)))) (hb hby d5_39) hr) (by decide) (by decide) ?_
      show Q5 Z p1 a_cache h0 n0 _ T6.heap _
      exact ⟨b5, rfl, N6, (((Keep.refl h0 []).ext E5).trans K6 (allS (Or.inr (Nat.le_trans (Nat.le_refl h0.size) (Nat.le_of_eq g5.symm))) all0)), G6_0, G6_1⟩
    · skip
      refine go1 (fun _ => XS.ifNo X0.here hx rfl (hb hby d5_17) rfl ((if0 _ _).trans (flt (mt (lw_gt _ _).mp hc4)).2.2.1)) ?_
      show Go p.tables e below s₁ (mkF m 20 #[.val (.long p1), .second, .val (.int (128 : Int32))] []) _
      obtain ⟨T7, X7, e7, st7⟩ := getS2 X0 hx hZ hown (host := "") (Or.inl (hw _ (List.mem_of_getElem? (i := 32) rfl))) Via.refl e0 (S_cache.ext O0.2) (g := (mkF m 20 #[.val (.long p1), .second, .val (.int (128 : Int32))] [])) rfl (hb hby d5_20)
      refine go1 st7 ?_
      show Go p.tables e below T7 (mkF m 23 #[.val (.long p1), .second, .val (.int (128 : Int32))] [(.ref a_cache)]) _
      refine go1 (fun _ => XS.lloadN X7.here hx rfl (hb hby d5_23) rfl) ?_
      show Go p.tables e below T7 (mkF m 24 #[.val (.long p1), .second, .val (.int (128 : Int32))] [(.long p1), (.ref a_cache)]) _
      refine go1 (fun _ => XS.l2i X7.here hx rfl (hb hby d5_24) rfl) ?_
      show Go p.tables e below T7 (mkF m 25 #[.val (.long p1), .second, .val (.int (128 : Int32))] [(.int (p1.toInt32)), (.ref a_cache)]) _
      refine go1 (fun _ => XS.sipush X7.here hx rfl (hb hby d5_25)) ?_
      show Go p.tables e below T7 (mkF m 28 #[.val (.long p1), .second, .val (.int (128 : Int32))] [(.int (128 : Int32)), (.int (p1.toInt32)), (.ref a_cache)]) _
      refine go1 (fun _ => XS.iadd X7.here hx rfl (hb hby d5_28) rfl) ?_
      show Go p.tables e below T7 (mkF m 29 #[.val (.long p1), .second, .val (.int (128 : Int32))] [(.int ((p1.toInt32) + (128 : Int32))), (.ref a_cache)]) _
      have vo8 := BX_a_cache
      obtain ⟨cB8, BB8⟩ := vo8
      have hin8 := inb_of BB8.2.1 (own_lng p1 hc1 hc4).1
      obtain ⟨bx8, hat8, EB8, FB8⟩ := BB8.2.2.2 ((p1.toInt32) + (128 : Int32)) hin8
      have FC8 : Fld Z Z.heap bx8 "java/lang/Long" "value" "J" (.long p1) := by
        have q := (own_lng p1 hc1 hc4).2
        have r : Fld Z Z.heap bx8 "java/lang/Long" "value" "J" (.long (((p1.toInt32) + (128 : Int32)) - (128 : Int32)).toInt64) := FB8
        rw [q] at r
        exact r
      refine go1 (X7.aaload hx (j := ((p1.toInt32) + (128 : Int32))) (v := .ref bx8) (by rw [e7]; exact (BB8.1.ext O0.2).1) (State.isArrayOf_alike hZ.alike BB8.1.2.1) rfl BB8.1.2.2 hin8 hat8 (g := (mkF m 29 #[.val (.long p1), .second, .val (.int (128 : Int32))] [(.int ((p1.toInt32) + (128 : Int32))), (.ref a_cache)])) rfl rfl (hb hby d5_29)) ?_
      show Go p.tables e below T7 (mkF m 30 #[.val (.long p1), .second, .val (.int (128 : Int32))] [(.ref bx8)]) _
      refine goR X7 (BodyLoose.notSynchronized Bd) (v := (some (.ref bx8))) (fun h => by rw [Bd.returns] at h; cases h) (Q5 Z p1 a_cache h0 n0) (fun fs hr => retOut X7 hx (t := (.object "java/lang/Long")) (w := (.ref bx8)) Bd.returns rfl (Or.inr (Or.inr (Or.inr (Or.inr ⟨rfl, rfl, rfl⟩)))) (hb hby d5_30) hr) (by decide) (by decide) ?_
      show Q5 Z p1 a_cache h0 n0 _ T7.heap _
      rw [e7]
      exact ⟨bx8, rfl, N0, (Keep.refl h0 []), (EB8.ext O0.2), (FC8.ext O0.2)⟩
theorem d1_0 : decode prog_41_method_1_code 0 = .ok (.aload_n 0, 1) := by decide +kernel
theorem d1_1 : decode prog_41_method_1_code 1 = .ok (.invokespecial 1, 3) := by decide +kernel
theorem d1_4 : decode prog_41_method_1_code 4 = .ok (.iload_n 1, 1) := by decide +kernel
theorem d1_5 : decode prog_41_method_1_code 5 = .ok (.ifCond .eq 19, 3) := by decide +kernel
theorem d1_24 : decode prog_41_method_1_code 24 = .ok (.aload_n 0, 1) := by decide +kernel
theorem d1_25 : decode prog_41_method_1_code 25 = .ok (.iload_n 1, 1) := by decide +kernel
theorem d1_26 : decode prog_41_method_1_code 26 = .ok (.putfield 14, 3) := by decide +kernel
theorem d1_29 : decode prog_41_method_1_code 29 = .ok (.aload_n 0, 1) := by decide +kernel
theorem d1_30 : decode prog_41_method_1_code 30 = .ok (.lload_n 2, 1) := by decide +kernel
theorem d1_31 : decode prog_41_method_1_code 31 = .ok (.putfield 20, 3) := by decide +kernel
theorem d1_34 : decode prog_41_method_1_code 34 = .ok (.return_, 1) := by decide +kernel
theorem pn_1a : plainName "com/example/stubwright/stubwright/idl/UnionType$Label" = true := by first | (simp [plainName, overriddenIn]; done) | decide +kernel
theorem pd1a_0 : parseMethodDescriptor "()V" = some ⟨[], none⟩ := by decide +kernel
theorem ef_1a (m : MethodId) (b1 : Addr) (p2 : Int64) : entryFrame m #[(.ref b1), (.int (0 : Int32)), (.long p2)] 4 = mkF m 0 #[.val (.ref b1), .val (.int (0 : Int32)), .val (.long p2), .second] [] := by first | (simp [entryFrame, mkF, argsToLocals, Value.category]; done) | rfl
def Q1a (Z : State) (b1 : Addr) (p2 : Int64) (h0 : Heap) (n0 : Nat) (v : Option Value) (h : Heap) (L : List Loc) : Prop := v = none ∧ Fr n0 L ∧ Keep h0 h [b1] ∧ Exa Z h b1 "com/example/stubwright/stubwright/idl/UnionType$Label" ∧ Fld Z h b1 "com/example/stubwright/stubwright/idl/UnionType$Label" "isDefault" "Z" (.int (0 : Int32)) ∧ Fld Z h b1 "com/example/stubwright/stubwright/idl/UnionType$Label" "value" "J" (.long p2)
set_option maxRecDepth 65536 in
set_option maxHeartbeats 40000000 in
theorem rm1a (l : Launch) (Z : State) (a0 : Array Value) (hw : ∀ d ∈ tables_1, d.before a0 Z = true) (ws : List Jvm.Cond) (b1 : Addr) (p2 : Int64) (h0 : Heap) (n0 : Nat) (Z0 : n0 ≤ h0.size) (F_isDefault_b1 : Fld Z h0 b1 "com/example/stubwright/stubwright/idl/UnionType$Label" "isDefault" "Z" (.int (0 : Int32))) (F_value_b1 : Fld Z h0 b1 "com/example/stubwright/stubwright/idl/UnionType$Label" "value" "J" (.long (0 : Int64))) (E_b1 : Exa Z h0 b1 "com/example/stubwright/stubwright/idl/UnionType$Label") (g_b1 : n0 ≤ b1) :
    MetFree l (⟨"com/example/stubwright/stubwright/idl/UnionType$Label", "<init>", "(ZJ)V"⟩ : MethodName) (head1 (Jvm.Cond.code (⟨"com/example/stubwright/stubwright/idl/UnionType$Label", "<init>", "(ZJ)V"⟩ : MethodName) prog_41_method_1_code 4 none :: ws) ({ frames := 2, cells := 0, slots := 0, locals := 24 } : Room)) (fun a U => a = #[(.ref b1), (.int (0 : Int32)), (.long p2)] ∧ Z.Warmed39 U.vm ∧ U.heap = h0) (fun _ _ _ _ _ => True) (fun _ U o U' => ∃ v L, o = .returned v ∧ Q1a Z b1 p2 h0 n0 v U'.heap L ∧ FrameEnd U o U' L ({ frames := 2, cells := 0, slots := 0, locals := 24 } : Room).cells ({ frames := 2, cells := 0, slots := 0, locals := 24 } : Room).slots) := by
  refine MetFree.of_bodySF (plainFor_of_name pn_1a) hisR ?_
  intro p e s m args below meth c s₁ Bd hml0 hP hK
  obtain ⟨rfl, hZ, hh⟩ := hP
  have hx := Bd.exec
  have hby := Bd.bytes
  have hml : c.maxLocals = 4 := hml0
  have hown : s.vm.findClass "com/example/stubwright/stubwright/idl/UnionType$Label" = some m.cls := findClass_of_methodNamed Bd.named
  have hnm := (name_of_methodNamed Bd.named Bd.method).1
  have X0 : Stand p l e ({ frames := 2, cells := 0, slots := 0, locals := 24 } : Room) s m #[(.ref b1), (.int (0 : Int32)), (.long p2)] below meth c s₁ [] 0 0 := Stand.of_body Bd
  have e0 : s₁.heap = h0 := by rw [← hh, Bd.state]; rfl
  have N0 := Fr.nil n0
  refine goB (ef_1a m b1 p2) ?_
  show Go p.tables e below s₁ (mkF m 0 #[.val (.ref b1), .val (.int (0 : Int32)), .val (.long p2), .second] []) _
  refine go1 (fun _ => XS.aloadN X0.here hx rfl (hb hby d1_0) rfl rfl) ?_
  show Go p.tables e below s₁ (mkF m 1 #[.val (.ref b1), .val (.int (0 : Int32)), .val (.long p2), .second] [(.ref b1)]) _
  obtain ⟨_, _, ⟨T1, L1, k1, n1⟩, -, X1, ⟨Lc1, hQ1, l1, y1, z1⟩, st1⟩ := X0.specialBack hx (y := (⟨"java/lang/Record", "<init>", "()V"⟩ : MethodName)) rfl hown (mvT hZ (hw _ (List.mem_of_getElem? (i := 6) rfl))) (mvT hZ (hw _ (List.mem_of_getElem? (i := 7) rfl))) (mvT hZ (hw _ (List.mem_of_getElem? (i := 10) rfl))) (by decide) (backOf (W := 0) (rm2 l Z a0 hw [] b1 h0 n0 Z0 ) hZ (hw _ (List.mem_of_getElem? (i := 10) rfl)) (hw _ (List.mem_of_getElem? (i := 9) rfl)) (by decide) (by decide)) (g := (mkF m 1 #[.val (.ref b1), .val (.int (0 : Int32)), .val (.long p2), .second] [(.ref b1)])) rfl (by rw [hml]; rfl) (Steps.refl _) (a := b1) (argsL := []) (rest := []) (lenOf pd1a_0 rfl) rfl (by show 2 * 0 + _ ≤ _; exact Nat.le_of_eq rfl) (hb hby d1_1) (fun _ _ => ⟨rfl, e0, (by decide : 0 + 0 ≤ _), (by decide : 0 + 0 ≤ _)⟩)
  dsimp only [Pt.U, Pt.locs, Pt.cells, Pt.slots] at X1 l1 y1 z1 st1 hQ1
  subst l1 y1 z1
  obtain ⟨rfl, N1q, e1⟩ := hQ1
  have N1 := Fr.app N0 N1q
  refine goT st1 ?_
  show Go p.tables e below T1 (mkF m 4 #[.val (.ref b1), .val (.int (0 : Int32)), .val (.long p2), .second] []) _
  refine go1 (fun _ => XS.iloadN X1.here hx rfl (hb hby d1_4) rfl) ?_
  show Go p.tables e below T1 (mkF m 5 #[.val (.ref b1), .val (.int (0 : Int32)), .val (.long p2), .second] [(.int (0 : Int32))]) _
  refine go1 (fun _ => XS.ifYes X1.here hx rfl (pc0 := 5) (pc' := 24) rfl (hb hby d1_5) rfl ((if0 _ _).trans (teq (by decide : (0 : Int32) = (0 : Int32))).1) (by decide) (by decide)) ?_
  show Go p.tables e below T1 (mkF m 24 #[.val (.ref b1), .val (.int (0 : Int32)), .val (.long p2), .second] []) _
  refine go1 (fun _ => XS.aloadN X1.here hx rfl (hb hby d1_24) rfl rfl) ?_
  show Go p.tables e below T1 (mkF m 25 #[.val (.ref b1), .val (.int (0 : Int32)), .val (.long p2), .second] [(.ref b1)]) _
  refine go1 (fun _ => XS.iloadN X1.here hx rfl (hb hby d1_25) rfl) ?_
  show Go p.tables e below T1 (mkF m 26 #[.val (.ref b1), .val (.int (0 : Int32)), .val (.long p2), .second] [(.int (0 : Int32)), (.ref b1)]) _
  obtain ⟨T2, h2, X2, e2, W2, st2⟩ := putFN X1 hx hZ hown (hw _ (List.mem_of_getElem? (i := 14) rfl)) Via.refl e1 F_isDefault_b1 E_b1 (Or.inr ⟨(hw _ (List.mem_of_getElem? (i := 15) rfl)), rfl, hnm⟩) (hw _ (List.mem_of_getElem? (i := 1) rfl)) (ty := .boolean) (v' := (.int (0 : Int32))) (by decide) rfl (by decide) (g := (mkF m 26 #[.val (.ref b1), .val (.int (0 : Int32)), .val (.long p2), .second] [(.int (0 : Int32)), (.ref b1)])) rfl rfl (hb hby d1_26)
  refine go1 st2 ?_
  have Fw2 := F_isDefault_b1.same W2
  have N2 := Fr.snoc X2 N1 g_b1
  show Go p.tables e below T2 (mkF m 29 #[.val (.ref b1), .val (.int (0 : Int32)), .val (.long p2), .second] []) _
  refine go1 (fun _ => XS.aloadN X2.here hx rfl (hb hby d1_29) rfl rfl) ?_
  show Go p.tables e below T2 (mkF m 30 #[.val (.ref b1), .val (.int (0 : Int32)), .val (.long p2), .second] [(.ref b1)]) _
  refine go1 (fun _ => XS.lloadN X2.here hx rfl (hb hby d1_30) rfl) ?_
  show Go p.tables e below T2 (mkF m 31 #[.val (.ref b1), .val (.int (0 : Int32)), .val (.long p2), .second] [(.long p2), (.ref b1)]) _
  obtain ⟨T3, h3, X3, e3, W3, st3⟩ := putF X2 hx hZ hown (host := "") (Or.inl (hw _ (List.mem_of_getElem? (i := 16) rfl))) Via.refl e2 (F_value_b1.other W2 (Or.inr (slot_ne (Or.inr (hw _ (List.mem_of_getElem? (i := 17) rfl))) (Or.inr (hw _ (List.mem_of_getElem? (i := 15) rfl))) (by decide) (t := .long) (t' := .boolean) (by decide) (by decide)))) (E_b1.wr W2) (Or.inr ⟨(hw _ (List.mem_of_getElem? (i := 17) rfl)), rfl, hnm⟩) (hw _ (List.mem_of_getElem? (i := 1) rfl)) (ty := .long) (by decide) rfl rfl (g := (mkF m 31 #[.val (.ref b1), .val (.int (0 : Int32)), .val (.long p2), .second] [(.long p2), (.ref b1)])) rfl rfl (hb hby d1_31)
  refine go1 st3 ?_
  have Fw3 := (F_value_b1.other W2 (Or.inr (slot_ne (Or.inr (hw _ (List.mem_of_getElem? (i := 17) rfl))) (Or.inr (hw _ (List.mem_of_getElem? (i := 15) rfl))) (by decide) (t := .long) (t' := .boolean) (by decide) (by decide)))).same W3
  have N3 := Fr.snoc X3 N2 g_b1
  show Go p.tables e below T3 (mkF m 34 #[.val (.ref b1), .val (.int (0 : Int32)), .val (.long p2), .second] []) _
  refine goR X3 (BodyLoose.notSynchronized Bd) (v := none) (fun _ => rfl) (Q1a Z b1 p2 h0 n0) (fun fs hr => X3.returnOut hx Bd.returns (hb hby d1_34) hr) (by decide) (by decide) ?_
  show Q1a Z b1 p2 h0 n0 _ T3.heap _
  rw [e3]
  exact ⟨rfl, N3, (((Keep.refl h0 [b1]).wr W2 (Or.inl (List.mem_of_getElem? (i := 0) rfl))).wr W3 (Or.inl (List.mem_of_getElem? (i := 0) rfl))), ((E_b1.wr W2).wr W3), (Fw2.other W3 (Or.inr (slot_ne (Or.inr (hw _ (List.mem_of_getElem? (i := 15) rfl))) (Or.inr (hw _ (List.mem_of_getElem? (i := 17) rfl))) (by decide) (t := .boolean) (t' := .long) (by decide) (by decide)))), Fw3⟩
theorem d1_8 : decode prog_41_method_1_code 8 = .ok (.lload_n 2, 1) := by decide +kernel
theorem d1_9 : decode prog_41_method_1_code 9 = .ok (.lconst 0, 1) := by decide +kernel
theorem d1_10 : decode prog_41_method_1_code 10 = .ok (.lcmp, 1) := by decide +kernel
theorem d1_11 : decode prog_41_method_1_code 11 = .ok (.ifCond .eq 13, 3) := by decide +kernel
theorem pn_1b : plainName "com/example/stubwright/stubwright/idl/UnionType$Label" = true := by first | (simp [plainName, overriddenIn]; done) | decide +kernel
theorem pd1b_0 : parseMethodDescriptor "()V" = some ⟨[], none⟩ := by decide +kernel
theorem ef_1b (m : MethodId) (b1 : Addr) : entryFrame m #[(.ref b1), (.int (1 : Int32)), (.long (0 : Int64))] 4 = mkF m 0 #[.val (.ref b1), .val (.int (1 : Int32)), .val (.long (0 : Int64)), .second] [] := by first | (simp [entryFrame, mkF, argsToLocals, Value.category]; done) | rfl
def Q1b (Z : State) (b1 : Addr) (h0 : Heap) (n0 : Nat) (v : Option Value) (h : Heap) (L : List Loc) : Prop := v = none ∧ Fr n0 L ∧ Keep h0 h [b1] ∧ Exa Z h b1 "com/example/stubwright/stubwright/idl/UnionType$Label" ∧ Fld Z h b1 "com/example/stubwright/stubwright/idl/UnionType$Label" "isDefault" "Z" (.int (1 : Int32)) ∧ Fld Z h b1 "com/example/stubwright/stubwright/idl/UnionType$Label" "value" "J" (.long (0 : Int64))
set_option maxRecDepth 65536 in
set_option maxHeartbeats 40000000 in
theorem rm1b (l : Launch) (Z : State) (a0 : Array Value) (hw : ∀ d ∈ tables_1, d.before a0 Z = true) (ws : List Jvm.Cond) (b1 : Addr) (h0 : Heap) (n0 : Nat) (Z0 : n0 ≤ h0.size) (F_isDefault_b1 : Fld Z h0 b1 "com/example/stubwright/stubwright/idl/UnionType$Label" "isDefault" "Z" (.int (0 : Int32))) (F_value_b1 : Fld Z h0 b1 "com/example/stubwright/stubwright/idl/UnionType$Label" "value" "J" (.long (0 : Int64))) (E_b1 : Exa Z h0 b1 "com/example/stubwright/stubwright/idl/UnionType$Label") (g_b1 : n0 ≤ b1) :
    MetFree l (⟨"com/example/stubwright/stubwright/idl/UnionType$Label", "<init>", "(ZJ)V"⟩ : MethodName) (head1 (Jvm.Cond.code (⟨"com/example/stubwright/stubwright/idl/UnionType$Label", "<init>", "(ZJ)V"⟩ : MethodName) prog_41_method_1_code 4 none :: ws) ({ frames := 2, cells := 0, slots := 0, locals := 24 } : Room)) (fun a U => a = #[(.ref b1), (.int (1 : Int32)), (.long (0 : Int64))] ∧ Z.Warmed39 U.vm ∧ U.heap = h0) (fun _ _ _ _ _ => True) (fun _ U o U' => ∃ v L, o = .returned v ∧ Q1b Z b1 h0 n0 v U'.heap L ∧ FrameEnd U o U' L ({ frames := 2, cells := 0, slots := 0, locals := 24 } : Room).cells ({ frames := 2, cells := 0, slots := 0, locals := 24 } : Room).slots) := by
  refine MetFree.of_bodySF (plainFor_of_name pn_1b) hisR ?_
  intro p e s m args below meth c s₁ Bd hml0 hP hK
  obtain ⟨rfl, hZ, hh⟩ := hP
  have hx := Bd.exec
  have hby := Bd.bytes
  have hml : c.maxLocals = 4 := hml0
  have hown : s.vm.findClass "com/example/stubwright/stubwright/idl/UnionType$Label" = some m.cls := findClass_of_methodNamed Bd.named
  have hnm := (name_of_methodNamed Bd.named Bd.method).1
  have X0 : Stand p l e ({ frames := 2, cells := 0, slots := 0, locals := 24 } : Room) s m #[(.ref b1), (.int (1 : Int32)), (.long (0 : Int64))] below meth c s₁ [] 0 0 := Stand.of_body Bd
  have e0 : s₁.heap = h0 := by rw [← hh, Bd.state]; rfl
  have N0 := Fr.nil n0
  refine goB (ef_1b m b1) ?_
  show Go p.tables e below s₁ (mkF m 0 #[.val (.ref b1), .val (.int (1 : Int32)), .val (.long (0 : Int64)), .second] []) _
  refine go1 (fun _ => XS.aloadN X0.here hx rfl (hb hby d1_0) rfl rfl) ?_
  show Go p.tables e below s₁ (mkF m 1 #[.val (.ref b1), .val (.int (1 : Int32)), .val (.long (0 : Int64)), .second] [(.ref b1)]) _
  obtain ⟨_, _, ⟨T1, L1, k1, n1⟩, -, X1, ⟨Lc1, hQ1, l1, y1, z1⟩, st1⟩ := X0.specialBack hx (y := (⟨"java/lang/Record", "<init>", "()V"⟩ : MethodName)) rfl hown (mvT hZ (hw _ (List.mem_of_getElem? (i := 6) rfl))) (mvT hZ (hw _ (List.mem_of_getElem? (i := 7) rfl))) (mvT hZ (hw _ (List.mem_of_getElem? (i := 10) rfl))) (by decide) (backOf (W := 0) (rm2 l Z a0 hw [] b1 h0 n0 Z0 ) hZ (hw _ (List.mem_of_getElem? (i := 10) rfl)) (hw _ (List.mem_of_getElem? (i := 9) rfl)) (by decide) (by decide)) (g := (mkF m 1 #[.val (.ref b1), .val (.int (1 : Int32)), .val (.long (0 : Int64)), .second] [(.ref b1)])) rfl (by rw [hml]; rfl) (Steps.refl _) (a := b1) (argsL := []) (rest := []) (lenOf pd1b_0 rfl) rfl (by show 2 * 0 + _ ≤ _; exact Nat.le_of_eq rfl) (hb hby d1_1) (fun _ _ => ⟨rfl, e0, (by decide : 0 + 0 ≤ _), (by decide : 0 + 0 ≤ _)⟩)
  dsimp only [Pt.U, Pt.locs, Pt.cells, Pt.slots] at X1 l1 y1 z1 st1 hQ1
  subst l1 y1 z1
  obtain ⟨rfl, N1q, e1⟩ := hQ1
  have N1 := Fr.app N0 N1q
  refine goT st1 ?_
  show Go p.tables e below T1 (mkF m 4 #[.val (.ref b1), .val (.int (1 : Int32)), .val (.long (0 : Int64)), .second] []) _
  refine go1 (fun _ => XS.iloadN X1.here hx rfl (hb hby d1_4) rfl) ?_
  show Go p.tables e below T1 (mkF m 5 #[.val (.ref b1), .val (.int (1 : Int32)), .val (.long (0 : Int64)), .second] [(.int (1 : Int32))]) _
  refine go1 (fun _ => XS.ifNo X1.here hx rfl (hb hby d1_5) rfl ((if0 _ _).trans (feq (by decide : ¬ ((1 : Int32) = (0 : Int32)))).1)) ?_
  show Go p.tables e below T1 (mkF m 8 #[.val (.ref b1), .val (.int (1 : Int32)), .val (.long (0 : Int64)), .second] []) _
  refine go1 (fun _ => XS.lloadN X1.here hx rfl (hb hby d1_8) rfl) ?_
  show Go p.tables e below T1 (mkF m 9 #[.val (.ref b1), .val (.int (1 : Int32)), .val (.long (0 : Int64)), .second] [(.long (0 : Int64))]) _
  refine go1 (fun _ => XS.lconst X1.here hx rfl (hb hby d1_9)) ?_
  show Go p.tables e below T1 (mkF m 10 #[.val (.ref b1), .val (.int (1 : Int32)), .val (.long (0 : Int64)), .second] [(.long (0 : Int64)), (.long (0 : Int64))]) _
  refine go1 (fun _ => XS.lcmp X1.here hx rfl (hb hby d1_10) rfl) ?_
  show Go p.tables e below T1 (mkF m 11 #[.val (.ref b1), .val (.int (1 : Int32)), .val (.long (0 : Int64)), .second] [(.int (lcmpW (0 : Int64) (0 : Int64)))]) _
  refine go1 (fun _ => XS.ifYes X1.here hx rfl (pc0 := 11) (pc' := 24) rfl (hb hby d1_11) rfl ((if0 _ _).trans (teq ((lw_eq _ _).mpr (by decide : (0 : Int64) = (0 : Int64)))).1) (by decide) (by decide)) ?_
  show Go p.tables e below T1 (mkF m 24 #[.val (.ref b1), .val (.int (1 : Int32)), .val (.long (0 : Int64)), .second] []) _
  refine go1 (fun _ => XS.aloadN X1.here hx rfl (hb hby d1_24) rfl rfl) ?_
  show Go p.tables e below T1 (mkF m 25 #[.val (.ref b1), .val (.int (1 : Int32)), .val (.long (0 : Int64)), .second] [(.ref b1)]) _
  refine go1 (fun _ => XS.iloadN X1.here hx rfl (hb hby d1_25) rfl) ?_
  show Go p.tables e below T1 (mkF m 26 #[.val (.ref b1), .val (.int (1 : Int32)), .val (.long (0 : Int64)), .second] [(.int (1 : Int32)), (.ref b1)]) _
  obtain ⟨T2, h2, X2, e2, W2, st2⟩ := putFN X1 hx hZ hown (hw _ (List.mem_of_getElem? (i := 14) rfl)) Via.refl e1 F_isDefault_b1 E_b1 (Or.inr ⟨(hw _ (List.mem_of_getElem? (i := 15) rfl)), rfl, hnm⟩) (hw _ (List.mem_of_getElem? (i := 1) rfl)) (ty := .boolean) (v' := (.int (1 : Int32))) (by decide) rfl (by decide) (g := (mkF m 26 #[.val (.ref b1), .val (.int (1 : Int32)), .val (.long (0 : Int64)), .second] [(.int (1 : Int32)), (.ref b1)])) rfl rfl (hb hby d1_26)
  refine go1 st2 ?_
  have Fw2 := F_isDefault_b1.same W2
  have N2 := Fr.snoc X2 N1 g_b1
  show Go p.tables e below T2 (mkF m 29 #[.val (.ref b1), .val (.int (1 : Int32)), .val (.long (0 : Int64)), .second] []) _
  refine go1 (fun _ => XS.aloadN X2.here hx rfl (hb hby d1_29) rfl rfl) ?_
  show Go p.tables e below T2 (mkF m 30 #[.val (.ref b1), .val (.int (1 : Int32)), .val (.long (0 : Int64)), .second] [(.ref b1)]) _
  refine go1 (fun _ => XS.lloadN X2.here hx rfl (hb hby d1_30) rfl) ?_
  show Go p.tables e below T2 (mkF m 31 #[.val (.ref b1), .val (.int (1 : Int32)), .val (.long (0 : Int64)), .second] [(.long (0 : Int64)), (.ref b1)]) _
  obtain ⟨T3, h3, X3, e3, W3, st3⟩ := putF X2 hx hZ hown (host := "") (Or.inl (hw _ (List.mem_of_getElem? (i := 16) rfl))) Via.refl e2 (F_value_b1.other W2 (Or.inr (slot_ne (Or.inr (hw _ (List.mem_of_getElem? (i := 17) rfl))) (Or.inr (hw _ (List.mem_of_getElem? (i := 15) rfl))) (by decide) (t := .long) (t' := .boolean) (by decide) (by decide)))) (E_b1.wr W2) (Or.inr ⟨(hw _ (List.mem_of_getElem? (i := 17) rfl)), rfl, hnm⟩) (hw _ (List.mem_of_getElem? (i := 1) rfl)) (ty := .long) (by decide) rfl rfl (g := (mkF m 31 #[.val (.ref b1), .val (.int (1 : Int32)), .val (.long (0 : Int64)), .second] [(.long (0 : Int64)), (.ref b1)])) rfl rfl (hb hby d1_31)
  refine go1 st3 ?_
  have Fw3 := (F_value_b1.other W2 (Or.inr (slot_ne (Or.inr (hw _ (List.mem_of_getElem? (i := 17) rfl))) (Or.inr (hw _ (List.mem_of_getElem? (i := 15) rfl))) (by decide) (t := .long) (t' := .boolean) (by decide) (by decide)))).same W3
  have N3 := Fr.snoc X3 N2 g_b1
  show Go p.tables e below T3 (mkF m 34 #[.val (.ref b1), .val (.int (1 : Int32)), .val (.long (0 : Int64)), .second] []) _
  refine goR X3 (BodyLoose.notSynchronized Bd) (v := none) (fun _ => rfl) (Q1b Z b1 h0 n0) (fun fs hr => X3.returnOut hx Bd.returns (hb hby d1_34) hr) (by decide) (by decide) ?_
  show Q1b Z b1 h0 n0 _ T3.heap _
  rw [e3]
  exact ⟨rfl, N3, (((Keep.refl h0 [b1]).wr W2 (Or.inl (List.mem_of_getElem? (i := 0) rfl))).wr W3 (Or.inl (List.mem_of_getElem? (i := 0) rfl))), ((E_b1.wr W2).wr W3), (Fw2.other W3 (Or.inr (slot_ne (Or.inr (hw _ (List.mem_of_getElem? (i := 15) rfl))) (Or.inr (hw _ (List.mem_of_getElem? (i := 17) rfl))) (by decide) (t := .boolean) (t' := .long) (by decide) (by decide)))), Fw3⟩
theorem d4_0 : decode prog_41_method_3_code 0 = .ok (.aload_n 1, 1) := by decide +kernel
theorem d4_1 : decode prog_41_method_3_code 1 = .ok (.instanceof 15, 3) := by decide +kernel
theorem d4_4 : decode prog_41_method_3_code 4 = .ok (.ifCond .eq 35, 3) := by decide +kernel
theorem d4_7 : decode prog_41_method_3_code 7 = .ok (.aload_n 1, 1) := by decide +kernel
theorem d4_8 : decode prog_41_method_3_code 8 = .ok (.checkcast 15, 3) := by decide +kernel
theorem d4_11 : decode prog_41_method_3_code 11 = .ok (.astore_n 2, 1) := by decide +kernel
theorem d4_12 : decode prog_41_method_3_code 12 = .ok (.aload_n 2, 1) := by decide +kernel
theorem d4_13 : decode prog_41_method_3_code 13 = .ok (.getfield 14, 3) := by decide +kernel
theorem d4_16 : decode prog_41_method_3_code 16 = .ok (.aload_n 0, 1) := by decide +kernel
theorem d4_17 : decode prog_41_method_3_code 17 = .ok (.getfield 14, 3) := by decide +kernel
theorem d4_20 : decode prog_41_method_3_code 20 = .ok (.if_icmp .ne 19, 3) := by decide +kernel
theorem d4_23 : decode prog_41_method_3_code 23 = .ok (.aload_n 2, 1) := by decide +kernel
theorem d4_24 : decode prog_41_method_3_code 24 = .ok (.getfield 20, 3) := by decide +kernel
theorem d4_27 : decode prog_41_method_3_code 27 = .ok (.aload_n 0, 1) := by decide +kernel
theorem d4_28 : decode prog_41_method_3_code 28 = .ok (.getfield 20, 3) := by decide +kernel
theorem d4_31 : decode prog_41_method_3_code 31 = .ok (.lcmp, 1) := by decide +kernel
theorem d4_32 : decode prog_41_method_3_code 32 = .ok (.ifCond .ne 7, 3) := by decide +kernel
theorem d4_35 : decode prog_41_method_3_code 35 = .ok (.iconst 1, 1) := by decide +kernel
theorem d4_36 : decode prog_41_method_3_code 36 = .ok (.goto 4, 3) := by decide +kernel
theorem d4_39 : decode prog_41_method_3_code 39 = .ok (.iconst 0, 1) := by decide +kernel
theorem d4_40 : decode prog_41_method_3_code 40 = .ok (.ireturn, 1) := by decide +kernel
theorem pn_4a : plainName "com/example/stubwright/stubwright/idl/UnionType$Label" = true := by first | (simp [plainName, overriddenIn]; done) | decide +kernel
theorem ef_4a (m : MethodId) (b1 : Addr) (b2 : Addr) : entryFrame m #[(.ref b1), (.ref b2)] 3 = mkF m 0 #[.val (.ref b1), .val (.ref b2), .unset] [] := by first | (simp [entryFrame, mkF, argsToLocals, Value.category]; done) | rfl
def own_4a (d1 : Int32) (v1 : Int64) (d2 : Int32) (v2 : Int64) : Int32 :=
  if d2 = d1 then
    if v2 = v1 then
      (1 : Int32)
    else
      (0 : Int32)
  else
    (0 : Int32)
def Q4a (Z : State) (b1 : Addr) (b2 : Addr) (d1 : Int32) (v1 : Int64) (d2 : Int32) (v2 : Int64) (h0 : Heap) (n0 : Nat) (v : Option Value) (h : Heap) (L : List Loc) : Prop := v = some (.int (own_4a d1 v1 d2 v2)) ∧ Fr n0 L ∧ h = h0
set_option maxRecDepth 65536 in
set_option maxHeartbeats 40000000 in
theorem rm4a (l : Launch) (Z : State) (a0 : Array Value) (hw : ∀ d ∈ tables_1, d.before a0 Z = true) (ws : List Jvm.Cond) (b1 : Addr) (b2 : Addr) (d1 : Int32) (v1 : Int64) (d2 : Int32) (v2 : Int64) (h0 : Heap) (n0 : Nat) (Z0 : n0 ≤ h0.size) (E_b2 : Exa Z h0 b2 "com/example/stubwright/stubwright/idl/UnionType$Label") (F_isDefault_b1 : Fld Z h0 b1 "com/example/stubwright/stubwright/idl/UnionType$Label" "isDefault" "Z" (.int d1)) (F_value_b1 : Fld Z h0 b1 "com/example/stubwright/stubwright/idl/UnionType$Label" "value" "J" (.long v1)) (F_isDefault_b2 : Fld Z h0 b2 "com/example/stubwright/stubwright/idl/UnionType$Label" "isDefault" "Z" (.int d2)) (F_value_b2 : Fld Z h0 b2 "com/example/stubwright/stubwright/idl/UnionType$Label" "value" "J" (.long v2)) :
    MetFree l (⟨"com/example/stubwright/stubwright/idl/UnionType$Label", "equals", "(Ljava/lang/Object;)Z"⟩ : MethodName) (head1 (Jvm.Cond.code (⟨"com/example/stubwright/stubwright/idl/UnionType$Label", "equals", "(Ljava/lang/Object;)Z"⟩ : MethodName) prog_41_method_3_code 3 (some .boolean) :: ws) ({ frames := 0, cells := 0, slots := 0, locals := 0 } : Room)) (fun a U => a = #[(.ref b1), (.ref b2)] ∧ Z.Warmed39 U.vm ∧ U.heap = h0) (fun _ _ _ _ _ => True) (fun _ U o U' => ∃ v L, o = .returned v ∧ Q4a Z b1 b2 d1 v1 d2 v2 h0 n0 v U'.heap L ∧ FrameEnd U o U' L ({ frames := 0, cells := 0, slots := 0, locals := 0 } : Room).cells ({ frames := 0, cells := 0, slots := 0, locals := 0 } : Room).slots) := by
  refine MetFree.of_bodySF (plainFor_of_name pn_4a) hisR ?_
  intro p e s m args below meth c s₁ Bd hml0 hP hK
  obtain ⟨rfl, hZ, hh⟩ := hP
  have hx := Bd.exec
  have hby := Bd.bytes
  have hml : c.maxLocals = 3 := hml0
  have hown : s.vm.findClass "com/example/stubwright/stubwright/idl/UnionType$Label" = some m.cls := findClass_of_methodNamed Bd.named
  have hnm := (name_of_methodNamed Bd.named Bd.method).1
  have X0 : Stand p l e ({ frames := 0, cells := 0, slots := 0, locals := 0 } : Room) s m #[(.ref b1), (.ref b2)] below meth c s₁ [] 0 0 := Stand.of_body Bd
  have e0 : s₁.heap = h0 := by rw [← hh, Bd.state]; rfl
  have N0 := Fr.nil n0
  refine goB (ef_4a m b1 b2) ?_
  show Go p.tables e below s₁ (mkF m 0 #[.val (.ref b1), .val (.ref b2), .unset] []) _
  refine go1 (fun _ => XS.aloadN X0.here hx rfl (hb hby d4_0) rfl rfl) ?_
  show Go p.tables e below s₁ (mkF m 1 #[.val (.ref b1), .val (.ref b2), .unset] [(.ref b2)]) _
  obtain ⟨T1, X1, e1, st1⟩ := instY X0 hx hZ hown (hw _ (List.mem_of_getElem? (i := 23) rfl)) e0 (Ins.self E_b2) (g := (mkF m 1 #[.val (.ref b1), .val (.ref b2), .unset] [(.ref b2)])) rfl rfl (hb hby d4_1)
  refine go1 st1 ?_
  show Go p.tables e below T1 (mkF m 4 #[.val (.ref b1), .val (.ref b2), .unset] [(.int (1 : Int32))]) _
  refine go1 (fun _ => XS.ifNo X1.here hx rfl (hb hby d4_4) rfl ((if0 _ _).trans (feq (by decide : ¬ ((1 : Int32) = (0 : Int32)))).1)) ?_
  show Go p.tables e below T1 (mkF m 7 #[.val (.ref b1), .val (.ref b2), .unset] []) _
  refine go1 (fun _ => XS.aloadN X1.here hx rfl (hb hby d4_7) rfl rfl) ?_
  show Go p.tables e below T1 (mkF m 8 #[.val (.ref b1), .val (.ref b2), .unset] [(.ref b2)]) _
  obtain ⟨T2, X2, e2, st2⟩ := castY X1 hx hZ hown (hw _ (List.mem_of_getElem? (i := 23) rfl)) e1 (Ins.self E_b2) (g := (mkF m 8 #[.val (.ref b1), .val (.ref b2), .unset] [(.ref b2)])) rfl rfl (hb hby d4_8)
  refine go1 st2 ?_
  show Go p.tables e below T2 (mkF m 11 #[.val (.ref b1), .val (.ref b2), .unset] [(.ref b2)]) _
  refine go1 (fun _ => XS.astoreN X2.here hx rfl (hb hby d4_11) rfl rfl (l' := #[.val (.ref b1), .val (.ref b2), .val (.ref b2)]) rfl) ?_
  show Go p.tables e below T2 (mkF m 12 #[.val (.ref b1), .val (.ref b2), .val (.ref b2)] []) _
  refine go1 (fun _ => XS.aloadN X2.here hx rfl (hb hby d4_12) rfl rfl) ?_
  show Go p.tables e below T2 (mkF m 13 #[.val (.ref b1), .val (.ref b2), .val (.ref b2)] [(.ref b2)]) _
  obtain ⟨T3, X3, e3, st3⟩ := getF X2 hx hZ hown (host := "") (Or.inl (hw _ (List.mem_of_getElem? (i := 14) rfl))) Via.refl e2 F_isDefault_b2 (g := (mkF m 13 #[.val (.ref b1), .val (.ref b2), .val (.ref b2)] [(.ref b2)])) rfl rfl (hb hby d4_13)
  refine go1 st3 ?_
  show Go p.tables e below T3 (mkF m 16 #[.val (.ref b1), .val (.ref b2), .val (.ref b2)] [(.int d2)]) _
  refine go1 (fun _ => XS.aloadN X3.here hx rfl (hb hby d4_16) rfl rfl) ?_
  show Go p.tables e below T3 (mkF m 17 #[.val (.ref b1), .val (.ref b2), .val (.ref b2)] [(.ref b1), (.int d2)]) _
  obtain ⟨T4, X4, e4, st4⟩ := getF X3 hx hZ hown (host := "") (Or.inl (hw _ (List.mem_of_getElem? (i := 14) rfl))) Via.refl e3 F_isDefault_b1 (g := (mkF m 17 #[.val (.ref b1), .val (.ref b2), .val (.ref b2)] [(.ref b1), (.int d2)])) rfl rfl (hb hby d4_17)
  refine go1 st4 ?_
  show Go p.tables e below T4 (mkF m 20 #[.val (.ref b1), .val (.ref b2), .val (.ref b2)] [(.int d1), (.int d2)]) _
  by_cases hc5 : d2 = d1
  · skip
    refine go1 (fun _ => XS.icmpNo X4.here hx rfl (hb hby d4_20) rfl (teq hc5).2) ?_
    show Go p.tables e below T4 (mkF m 23 #[.val (.ref b1), .val (.ref b2), .val (.ref b2)] []) _
    refine go1 (fun _ => XS.aloadN X4.here hx rfl (hb hby d4_23) rfl rfl) ?_
    show Go p.tables e below T4 (mkF m 24 #[.val (.ref b1), .val (.ref b2), .val (.ref b2)] [(.ref b2)]) _
    obtain ⟨T6, X6, e6, st6⟩ := getF X4 hx hZ hown (host := "") (Or.inl (hw _ (List.mem_of_getElem? (i := 16) rfl))) Via.refl e4 F_value_b2 (g := (mkF m 24 #[.val (.ref b1), .val (.ref b2), .val (.ref b2)] [(.ref b2)])) rfl rfl (hb hby d4_24)
    refine go1 st6 ?_
    show Go p.tables e below T6 (mkF m 27 #[.val (.ref b1), .val (.ref b2), .val (.ref b2)] [(.long v2)]) _
    refine go1 (fun _ => XS.aloadN X6.here hx rfl (hb hby d4_27) rfl rfl) ?_
    show Go p.tables e below T6 (mkF m 28 #[.val (.ref b1), .val (.ref b2), .val (.ref b2)] [(.ref b1), (.long v2)]) _
    obtain ⟨T7, X7, e7, st7⟩ := getF X6 hx hZ hown (host := "") (Or.inl (hw _ (List.mem_of_getElem? (i := 16) rfl))) Via.refl e6 F_value_b1 (g := (mkF m 28 #[.val (.ref b1), .val (.ref b2), .val (.ref b2)] [(.ref b1), (.long v2)])) rfl rfl (hb hby d4_28)
    refine go1 st7 ?_
    show Go p.tables e below T7 (mkF m 31 #[.val (.ref b1), .val (.ref b2), .val (.ref b2)] [(.long v1), (.long v2)]) _
    refine go1 (fun _ => XS.lcmp X7.here hx rfl (hb hby d4_31) rfl) ?_
    show Go p.tables e below T7 (mkF m 32 #[.val (.ref b1), .val (.ref b2), .val (.ref b2)] [(.int (lcmpW v2 v1))]) _
    by_cases hc8 : v2 = v1
    · skip
      refine go1 (fun _ => XS.ifNo X7.here hx rfl (hb hby d4_32) rfl ((if0 _ _).trans (teq ((lw_eq _ _).mpr hc8)).2)) ?_
      show Go p.tables e below T7 (mkF m 35 #[.val (.ref b1), .val (.ref b2), .val (.ref b2)] []) _
      refine go1 (fun _ => XS.iconst X7.here hx rfl (hb hby d4_35)) ?_
      show Go p.tables e below T7 (mkF m 36 #[.val (.ref b1), .val (.ref b2), .val (.ref b2)] [(.int (1 : Int32))]) _
      refine go1 (fun _ => XS.goto X7.here hx rfl (pc0 := 36) (pc' := 40) rfl (hb hby d4_36) (by decide) (by decide)) ?_
      show Go p.tables e below T7 (mkF m 40 #[.val (.ref b1), .val (.ref b2), .val (.ref b2)] [(.int (1 : Int32))]) _
      refine goR X7 (BodyLoose.notSynchronized Bd) (v := (some (.int (1 : Int32)))) (fun h => by rw [Bd.returns] at h; cases h) (Q4a Z b1 b2 d1 v1 d2 v2 h0 n0) (fun fs hr => retN X7 hx (t := .boolean) Bd.returns (by simp) (hb hby d4_40) hr) (by decide) (by decide) ?_
      show Q4a Z b1 b2 d1 v1 d2 v2 h0 n0 _ T7.heap _
      rw [e7]
      exact ⟨(by rw [own_4a, if_pos hc5, if_pos hc8]), N0, rfl⟩
    · skip
      refine go1 (fun _ => XS.ifYes X7.here hx rfl (pc0 := 32) (pc' := 39) rfl (hb hby d4_32) rfl ((if0 _ _).trans (feq (mt (lw_eq _ _).mp hc8)).2) (by decide) (by decide)) ?_
      show Go p.tables e below T7 (mkF m 39 #[.val (.ref b1), .val (.ref b2), .val (.ref b2)] []) _
      refine go1 (fun _ => XS.iconst X7.here hx rfl (hb hby d4_39)) ?_
      show Go p.tables e below T7 (mkF m 40 #[.val (.ref b1), .val (.ref b2), .val (.ref b2)] [(.int (0 : Int32))]) _
      refine goR X7 (BodyLoose.notSynchronized Bd) (v := (some (.int (0 : Int32)))) (fun h => by rw [Bd.returns] at h; cases h) (Q4a Z b1 b2 d1 v1 d2 v2 h0 n0) (fun fs hr => retN X7 hx (t := .boolean) Bd.returns (by simp) (hb hby d4_40) hr) (by decide) (by decide) ?_
      show Q4a Z b1 b2 d1 v1 d2 v2 h0 n0 _ T7.heap _
      rw [e7]
      exact ⟨(by rw [own_4a, if_pos hc5, if_neg hc8]), N0, rfl⟩
  · skip
    refine go1 (fun _ => XS.icmpYes X4.here hx rfl (pc0 := 20) (pc' := 39) rfl (hb hby d4_20) rfl (feq hc5).2 (by decide) (by decide)) ?_
    show Go p.tables e below T4 (mkF m 39 #[.val (.ref b1), .val (.ref b2), .val (.ref b2)] []) _
    refine go1 (fun _ => XS.iconst X4.here hx rfl (hb hby d4_39)) ?_
    show Go p.tables e below T4 (mkF m 40 #[.val (.ref b1), .val (.ref b2), .val (.ref b2)] [(.int (0 : Int32))]) _
    refine goR X4 (BodyLoose.notSynchronized Bd) (v := (some (.int (0 : Int32)))) (fun h => by rw [Bd.returns] at h; cases h) (Q4a Z b1 b2 d1 v1 d2 v2 h0 n0) (fun fs hr => retN X4 hx (t := .boolean) Bd.returns (by simp) (hb hby d4_40) hr) (by decide) (by decide) ?_
    show Q4a Z b1 b2 d1 v1 d2 v2 h0 n0 _ T4.heap _
    rw [e4]
    exact ⟨(by rw [own_4a, if_neg hc5]), N0, rfl⟩
theorem pn_4b : plainName "com/example/stubwright/stubwright/idl/UnionType$Label" = true := by first | (simp [plainName, overriddenIn]; done) | decide +kernel
theorem ef_4b (m : MethodId) (b1 : Addr) : entryFrame m #[(.ref b1), .null] 3 = mkF m 0 #[.val (.ref b1), .val .null, .unset] [] := by first | (simp [entryFrame, mkF, argsToLocals, Value.category]; done) | rfl
def Q4b (Z : State) (b1 : Addr) (h0 : Heap) (n0 : Nat) (v : Option Value) (h : Heap) (L : List Loc) : Prop := v = some (.int (0 : Int32)) ∧ Fr n0 L ∧ h = h0
set_option maxRecDepth 65536 in
set_option maxHeartbeats 40000000 in
theorem rm4b (l : Launch) (Z : State) (a0 : Array Value) (hw : ∀ d ∈ tables_1, d.before a0 Z = true) (ws : List Jvm.Cond) (b1 : Addr) (h0 : Heap) (n0 : Nat) (Z0 : n0 ≤ h0.size) :
    MetFree l (⟨"com/example/stubwright/stubwright/idl/UnionType$Label", "equals", "(Ljava/lang/Object;)Z"⟩ : MethodName) (head1 (Jvm.Cond.code (⟨"com/example/stubwright/stubwright/idl/UnionType$Label", "equals", "(Ljava/lang/Object;)Z"⟩ : MethodName) prog_41_method_3_code 3 (some .boolean) :: ws) ({ frames := 0, cells := 0, slots := 0, locals := 0 } : Room)) (fun a U => a = #[(.ref b1), .null] ∧ Z.Warmed39 U.vm ∧ U.heap = h0) (fun _ _ _ _ _ => True) (fun _ U o U' => ∃ v L, o = .returned v ∧ Q4b Z b1 h0 n0 v U'.heap L ∧ FrameEnd U o U' L ({ frames := 0, cells := 0, slots := 0, locals := 0 } : Room).cells ({ frames := 0, cells := 0, slots := 0, locals := 0 } : Room).slots) := by
  refine MetFree.of_bodySF (plainFor_of_name pn_4b) hisR ?_
  intro p e s m args below meth c s₁ Bd hml0 hP hK
  obtain ⟨rfl, hZ, hh⟩ := hP
  have hx := Bd.exec
  have hby := Bd.bytes
  have hml : c.maxLocals = 3 := hml0
  have hown : s.vm.findClass "com/example/stubwright/stubwright/idl/UnionType$Label" = some m.cls := findClass_of_methodNamed Bd.named
  have hnm := (name_of_methodNamed Bd.named Bd.method).1
  have X0 : Stand p l e ({ frames := 0, cells := 0, slots := 0, locals := 0 } : Room) s m #[(.ref b1), .null] below meth c s₁ [] 0 0 := Stand.of_body Bd
  have e0 : s₁.heap = h0 := by rw [← hh, Bd.state]; rfl
  have N0 := Fr.nil n0
  refine goB (ef_4b m b1) ?_
  show Go p.tables e below s₁ (mkF m 0 #[.val (.ref b1), .val .null, .unset] []) _
  refine go1 (fun _ => XS.aloadN X0.here hx rfl (hb hby d4_0) rfl rfl) ?_
  show Go p.tables e below s₁ (mkF m 1 #[.val (.ref b1), .val .null, .unset] [.null]) _
  refine go1 (X0.instanceofNull hx (g := (mkF m 1 #[.val (.ref b1), .val .null, .unset] [.null])) rfl rfl (hb hby d4_1)) ?_
  show Go p.tables e below s₁ (mkF m 4 #[.val (.ref b1), .val .null, .unset] [(.int (0 : Int32))]) _
  refine go1 (fun _ => XS.ifYes X0.here hx rfl (pc0 := 4) (pc' := 39) rfl (hb hby d4_4) rfl ((if0 _ _).trans (teq (by decide : (0 : Int32) = (0 : Int32))).1) (by decide) (by decide)) ?_
  show Go p.tables e below s₁ (mkF m 39 #[.val (.ref b1), .val .null, .unset] []) _
  refine go1 (fun _ => XS.iconst X0.here hx rfl (hb hby d4_39)) ?_
  show Go p.tables e below s₁ (mkF m 40 #[.val (.ref b1), .val .null, .unset] [(.int (0 : Int32))]) _
  refine goR X0 (BodyLoose.notSynchronized Bd) (v := (some (.int (0 : Int32)))) (fun h => by rw [Bd.returns] at h; cases h) (Q4b Z b1 h0 n0) (fun fs hr => retN X0 hx (t := .boolean) Bd.returns (by simp) (hb hby d4_40) hr) (by decide) (by decide) ?_
  show Q4b Z b1 h0 n0 _ s₁.heap _
  rw [e0]
  exact ⟨rfl, N0, rfl⟩
theorem pn_4c : plainName "com/example/stubwright/stubwright/idl/UnionType$Label" = true := by first | (simp [plainName, overriddenIn]; done) | decide +kernel
theorem ef_4c (m : MethodId) (b1 : Addr) (b2 : Addr) : entryFrame m #[(.ref b1), (.ref b2)] 3 = mkF m 0 #[.val (.ref b1), .val (.ref b2), .unset] [] := by first | (simp [entryFrame, mkF, argsToLocals, Value.category]; done) | rfl
def Q4c (Z : State) (b1 : Addr) (b2 : Addr) (h0 : Heap) (n0 : Nat) (v : Option Value) (h : Heap) (L : List Loc) : Prop := v = some (.int (0 : Int32)) ∧ Fr n0 L ∧ h = h0
set_option maxRecDepth 65536 in
set_option maxHeartbeats 40000000 in
theorem rm4c (l : Launch) (Z : State) (a0 : Array Value) (hw : ∀ d ∈ tables_1, d.before a0 Z = true) (ws : List Jvm.Cond) (b1 : Addr) (b2 : Addr) (h0 : Heap) (n0 : Nat) (Z0 : n0 ≤ h0.size) (E_b2 : Exa Z h0 b2 "java/lang/Long") :
    MetFree l (⟨"com/example/stubwright/stubwright/idl/UnionType$Label", "equals", "(Ljava/lang/Object;)Z"⟩ : MethodName) (head1 (Jvm.Cond.code (⟨"com/example/stubwright/stubwright/idl/UnionType$Label", "equals", "(Ljava/lang/Object;)Z"⟩ : MethodName) prog_41_method_3_code 3 (some .boolean) :: ws) ({ frames := 0, cells := 0, slots := 0, locals := 0 } : Room)) (fun a U => a = #[(.ref b1), (.ref b2)] ∧ Z.Warmed39 U.vm ∧ U.heap = h0) (fun _ _ _ _ _ => True) (fun _ U o U' => ∃ v L, o = .returned v ∧ Q4c Z b1 b2 h0 n0 v U'.heap L ∧ FrameEnd U o U' L ({ frames := 0, cells := 0, slots := 0, locals := 0 } : Room).cells ({ frames := 0, cells := 0, slots := 0, locals := 0 } : Room).slots) := by
  refine MetFree.of_bodySF (plainFor_of_name pn_4c) hisR ?_
  intro p e s m args below meth c s₁ Bd hml0 hP hK
  obtain ⟨rfl, hZ, hh⟩ := hP
  have hx := Bd.exec
  have hby := Bd.bytes
  have hml : c.maxLocals = 3 := hml0
  have hown : s.vm.findClass "com/example/stubwright/stubwright/idl/UnionType$Label" = some m.cls := findClass_of_methodNamed Bd.named
  have hnm := (name_of_methodNamed Bd.named Bd.method).1
  have X0 : Stand p l e ({ frames := 0, cells := 0, slots := 0, locals := 0 } : Room) s m #[(.ref b1), (.ref b2)] below meth c s₁ [] 0 0 := Stand.of_body Bd
  have e0 : s₁.heap = h0 := by rw [← hh, Bd.state]; rfl
  have N0 := Fr.nil n0
  refine goB (ef_4c m b1 b2) ?_
  show Go p.tables e below s₁ (mkF m 0 #[.val (.ref b1), .val (.ref b2), .unset] []) _
  refine go1 (fun _ => XS.aloadN X0.here hx rfl (hb hby d4_0) rfl rfl) ?_
  show Go p.tables e below s₁ (mkF m 1 #[.val (.ref b1), .val (.ref b2), .unset] [(.ref b2)]) _
  obtain ⟨T1, X1, e1, st1⟩ := instNo X0 hx hZ hown (hw _ (List.mem_of_getElem? (i := 23) rfl)) e0 E_b2 (nsNo (hw _ (List.mem_of_getElem? (i := 34) rfl)) (hw _ (List.mem_of_getElem? (i := 1) rfl)) (NS.step (hw _ (List.mem_of_getElem? (i := 34) rfl)) (NS.step (hw _ (List.mem_of_getElem? (i := 35) rfl)) (nsRoot (hw _ (List.mem_of_getElem? (i := 36) rfl)) (hw _ (List.mem_of_getElem? (i := 1) rfl)) (by decide)) (by decide)) (by decide)) (by decide)) (g := (mkF m 1 #[.val (.ref b1), .val (.ref b2), .unset] [(.ref b2)])) rfl rfl (hb hby d4_1)
  refine go1 st1 ?_
  show Go p.tables e below T1 (mkF m 4 #[.val (.ref b1), .val (.ref b2), .unset] [(.int (0 : Int32))]) _
  refine go1 (fun _ => XS.ifYes X1.here hx rfl (pc0 := 4) (pc' := 39) rfl (hb hby d4_4) rfl ((if0 _ _).trans (teq (by decide : (0 : Int32) = (0 : Int32))).1) (by decide) (by decide)) ?_
  show Go p.tables e below T1 (mkF m 39 #[.val (.ref b1), .val (.ref b2), .unset] []) _
  refine go1 (fun _ => XS.iconst X1.here hx rfl (hb hby d4_39)) ?_
  show Go p.tables e below T1 (mkF m 40 #[.val (.ref b1), .val (.ref b2), .unset] [(.int (0 : Int32))]) _
  refine goR X1 (BodyLoose.notSynchronized Bd) (v := (some (.int (0 : Int32)))) (fun h => by rw [Bd.returns] at h; cases h) (Q4c Z b1 b2 h0 n0) (fun fs hr => retN X1 hx (t := .boolean) Bd.returns (by simp) (hb hby d4_40) hr) (by decide) (by decide) ?_
  show Q4c Z b1 b2 h0 n0 _ T1.heap _
  rw [e1]
  exact ⟨rfl, N0, rfl⟩
theorem pn_0 : plainName "com/example/stubwright/stubwright/idl/LabelEqualsPinLaw" = true := by first | (simp [plainName, overriddenIn]; done) | decide +kernel
theorem pd0_0 : parseMethodDescriptor "(ZJ)V" = some ⟨[.boolean, .long], none⟩ := by decide +kernel
theorem pd0_1 : parseMethodDescriptor "(Ljava/lang/Object;)Z" = some ⟨[(.object "java/lang/Object")], some .boolean⟩ := by decide +kernel
theorem pd0_2 : parseMethodDescriptor "(J)Ljava/lang/Long;" = some ⟨[.long], some (.object "java/lang/Long")⟩ := by decide +kernel
theorem ef_0 (m : MethodId) (p1 : Int32) (p2 : Int64) (p3 : Int32) (p4 : Int64) (p5 : Int32) : entryFrame m #[(.int p1), (.long p2), (.int p3), (.long p4), (.int p5)] maxLocals = mkF m 0 #[.val (.int p1), .val (.long p2), .second, .val (.int p3), .val (.long p4), .second, .val (.int p5), .unset, .unset, .unset, .unset, .unset, .unset, .unset, .unset, .unset, .unset, .unset, .unset, .unset] [] := by first | (simp [entryFrame, mkF, argsToLocals, Value.category, maxLocals]; done) | rfl
def Q0 (Z : State) (p1 : Int32) (p2 : Int64) (p3 : Int32) (p4 : Int64) (p5 : Int32) (a_cache : Addr) (h0 : Heap) (n0 : Nat) (v : Option Value) (h : Heap) (L : List Loc) : Prop := v = some (.int (1 : Int32)) ∧ Fr n0 L
set_option maxRecDepth 65536 in
set_option maxHeartbeats 40000000 in
theorem rm0 (l : Launch) (Z : State) (a0 : Array Value) (hw : ∀ d ∈ tables_1, d.before a0 Z = true) (ws : List Jvm.Cond) (p1 : Int32) (p2 : Int64) (p3 : Int32) (p4 : Int64) (p5 : Int32) (a_cache : Addr) (h0 : Heap) (n0 : Nat) (Z0 : n0 ≤ h0.size) (O0 : Old Z n0 h0) (S_cache : Sta Z Z.heap "java/lang/Long$LongCache" "cache" "[Ljava/lang/Long;" (.ref a_cache)) (ES_a_cache : Exa Z Z.heap a_cache "[Ljava/lang/Long;") (BX_a_cache : ∃ cB : Cell, Bxs Z a_cache cB "java/lang/Long" "J" (256 : Int32) (fun j => .long (j - (128 : Int32)).toInt64)) :
    MetFree l x (head1 (Jvm.Cond.code x code maxLocals ret :: ws) room_1) (fun a U => a = #[(.int p1), (.long p2), (.int p3), (.long p4), (.int p5)] ∧ Z.Warmed39 U.vm ∧ U.heap = h0) (fun _ _ _ _ _ => True) (fun _ U o U' => ∃ v L, o = .returned v ∧ Q0 Z p1 p2 p3 p4 p5 a_cache h0 n0 v U'.heap L ∧ FrameEnd U o U' L 16 128) := by
  refine MetFree.of_bodySF (plainFor_of_name pn_0) hisR ?_
  intro p e s m args below meth c s₁ Bd hml0 hP hK
  obtain ⟨rfl, hZ, hh⟩ := hP
  have hx := Bd.exec
  have hby := Bd.bytes
  have hml : c.maxLocals = 20 := hml0
  have hown : s.vm.findClass "com/example/stubwright/stubwright/idl/LabelEqualsPinLaw" = some m.cls := findClass_of_methodNamed Bd.named
  have hnm := (name_of_methodNamed Bd.named Bd.method).1
  have X0 : Stand p l e room_1 s m #[(.int p1), (.long p2), (.int p3), (.long p4), (.int p5)] below meth c s₁ [] 0 0 := Stand.of_body Bd
  have e0 : s₁.heap = h0 := by rw [← hh, Bd.state]; rfl
  have N0 := Fr.nil n0
  refine goB (ef_0 m p1 p2 p3 p4 p5) ?_
  show Go p.tables e below s₁ (mkF m 0 #[.val (.int p1), .val (.long p2), .second, .val (.int p3), .val (.long p4), .second, .val (.int p5), .unset, .unset, .unset, .unset, .unset, .unset, .unset, .unset, .unset, .unset, .unset, .unset, .unset] []) _
  refine go1 (fun _ => XS.iloadN X0.here hx rfl (hb hby at_0) rfl) ?_
  show Go p.tables e below s₁ (mkF m 1 #[.val (.int p1), .val (.long p2), .second, .val (.int p3), .val (.long p4), .second, .val (.int p5), .unset, .unset, .unset, .unset, .unset, .unset, .unset, .unset, .unset, .unset, .unset, .unset, .unset] [(.int p1)]) _
  refine go1 (fun _ => XS.iconst X0.here hx rfl (hb hby at_1)) ?_
  show Go p.tables e below s₁ (mkF m 2 #[.val (.int p1), .val (.long p2), .second, .val (.int p3), .val (.long p4), .second, .val (.int p5), .unset, .unset, .unset, .unset, .unset, .unset, .unset, .unset, .unset, .unset, .unset, .unset, .unset] [(.int (1 : Int32)), (.int p1)]) _
  refine go1 (fun _ => XS.iand X0.here hx rfl (hb hby at_2) rfl) ?_
  show Go p.tables e below s₁ (mkF m 3 #[.val (.int p1), .val (.long p2), .second, .val (.int p3), .val (.long p4), .second, .val (.int p5), .unset, .unset, .unset, .unset, .unset, .unset, .unset, .unset, .unset, .unset, .unset, .unset, .unset] [(.int (p1 &&& (1 : Int32)))]) _
  by_cases hc1 : (p1 &&& (1 : Int32)) = (0 : Int32)
  · skip
    refine go1 (fun _ => XS.ifYes X0.here hx rfl (pc0 := 3) (pc' := 10) rfl (hb hby at_3) rfl ((if0 _ _).trans (teq hc1).1) (by decide) (by decide)) ?_
    show Go p.tables e below s₁ (mkF m 10 #[.val (.int p1), .val (.long p2), .second, .val (.int p3), .val (.long p4), .second, .val (.int p5), .unset, .unset, .unset, .unset, .unset, .unset, .unset, .unset, .unset, .unset, .unset, .unset, .unset] []) _
    refine go1 (fun _ => XS.iconst X0.here hx rfl (hb hby at_10)) ?_
    show Go p.tables e below s₁ (mkF m 11 #[.val (.int p1), .val (.long p2), .second, .val (.int p3), .val (.long p4), .second, .val (.int p5), .unset, .unset, .unset, .unset, .unset, .unset, .unset, .unset, .unset, .unset, .unset, .unset, .unset] [(.int (0 : Int32))]) _
    refine go1 (fun _ => XS.istore X0.here hx rfl (hb hby at_11) rfl (l' := #[.val (.int p1), .val (.long p2), .second, .val (.int p3), .val (.long p4), .second, .val (.int p5), .val (.int (0 : Int32)), .unset, .unset, .unset, .unset, .unset, .unset, .unset, .unset, .unset, .unset, .unset, .unset]) rfl) ?_
    show Go p.tables e below s₁ (mkF m 13 #[.val (.int p1), .val (.long p2), .second, .val (.int p3), .val (.long p4), .second, .val (.int p5), .val (.int (0 : Int32)), .unset, .unset, .unset, .unset, .unset, .unset, .unset, .unset, .unset, .unset, .unset, .unset] []) _
    refine go1 (fun _ => XS.iloadN X0.here hx rfl (hb hby at_13) rfl) ?_
    show Go p.tables e below s₁ (mkF m 14 #[.val (.int p1), .val (.long p2), .second, .val (.int p3), .val (.long p4), .second, .val (.int p5), .val (.int (0 : Int32)), .unset, .unset, .unset, .unset, .unset, .unset, .unset, .unset, .unset, .unset, .unset, .unset] [(.int p3)]) _
    refine go1 (fun _ => XS.iconst X0.here hx rfl (hb hby at_14)) ?_
    show Go p.tables e below s₁ (mkF m 15 #[.val (.int p1), .val (.long p2), .second, .val (.int p3), .val (.long p4), .second, .val (.int p5), .val (.int (0 : Int32)), .unset, .unset, .unset, .unset, .unset, .unset, .unset, .unset, .unset, .unset, .unset, .unset] [(.int (1 : Int32)), (.int p3)]) _
    refine go1 (fun _ => XS.iand X0.here hx rfl (hb hby at_15) rfl) ?_
    show Go p.tables e below s₁ (mkF m 16 #[.val (.int p1), .val (.long p2), .second, .val (.int p3), .val (.long p4), .second, .val (.int p5), .val (.int (0 : Int32)), .unset, .unset, .unset, .unset, .unset, .unset, .unset, .unset, .unset, .unset, .unset, .unset] [(.int (p3 &&& (1 : Int32)))]) _
    by_cases hc2 : (p3 &&& (1 : Int32)) = (0 : Int32)
    · skip
      refine go1 (fun _ => XS.ifYes X0.here hx rfl (pc0 := 16) (pc' := 23) rfl (hb hby at_16) rfl ((if0 _ _).trans (teq hc2).1) (by decide) (by decide)) ?_
      show Go p.tables e below s₁ (mkF m 23 #[.val (.int p1), .val (.long p2), .second, .val (.int p3), .val (.long p4), .second, .val (.int p5), .val (.int (0 : Int32)), .unset, .unset, .unset, .unset, .unset, .unset, .unset, .unset, .unset, .unset, .unset, .unset] []) _
      refine go1 (fun _ => XS.iconst X0.here hx rfl (hb hby at_23)) ?_
      show Go p.tables e below s₁ (mkF m 24 #[.val (.int p1), .val (.long p2), .second, .val (.int p3), .val (.long p4), .second, .val (.int p5), .val (.int (0 : Int32)), .unset, .unset, .unset, .unset, .unset, .unset, .unset, .unset, .unset, .unset, .unset, .unset] [(.int (0 : Int32))]) _
      refine go1 (fun _ => XS.istore X0.here hx rfl (hb hby at_24) rfl (l' := #[.val (.int p1), .val (.long p2), .second, .val (.int p3), .val (.long p4), .second, .val (.int p5), .val (.int (0 : Int32)), .val (.int (0 : Int32)), .unset, .unset, .unset, .unset, .unset, .unset, .unset, .unset, .unset, .unset, .unset]) rfl) ?_
      show Go p.tables e below s₁ (mkF m 26 #[.val (.int p1), .val (.long p2), .second, .val (.int p3), .val (.long p4), .second, .val (.int p5), .val (.int (0 : Int32)), .val (.int (0 : Int32)), .unset, .unset, .unset, .unset, .unset, .unset, .unset, .unset, .unset, .unset, .unset] []) _
      refine go1 (fun _ => XS.iload X0.here hx rfl (hb hby at_26) rfl) ?_
      show Go p.tables e below s₁ (mkF m 28 #[.val (.int p1), .val (.long p2), .second, .val (.int p3), .val (.long p4), .second, .val (.int p5), .val (.int (0 : Int32)), .val (.int (0 : Int32)), .unset, .unset, .unset, .unset, .unset, .unset, .unset, .unset, .unset, .unset, .unset] [(.int (0 : Int32))]) _
      refine go1 (fun _ => XS.ifYes X0.here hx rfl (pc0 := 28) (pc' := 35) rfl (hb hby at_28) rfl ((if0 _ _).trans (teq (by decide : (0 : Int32) = (0 : Int32))).1) (by decide) (by decide)) ?_
      show Go p.tables e below s₁ (mkF m 35 #[.val (.int p1), .val (.long p2), .second, .val (.int p3), .val (.long p4), .second, .val (.int p5), .val (.int (0 : Int32)), .val (.int (0 : Int32)), .unset, .unset, .unset, .unset, .unset, .unset, .unset, .unset, .unset, .unset, .unset] []) _
      refine go1 (fun _ => XS.lloadN X0.here hx rfl (hb hby at_35) rfl) ?_
      show Go p.tables e below s₁ (mkF m 36 #[.val (.int p1), .val (.long p2), .second, .val (.int p3), .val (.long p4), .second, .val (.int p5), .val (.int (0 : Int32)), .val (.int (0 : Int32)), .unset, .unset, .unset, .unset, .unset, .unset, .unset, .unset, .unset, .unset, .unset] [(.long p2)]) _
      refine go1 (fun _ => XS.lstore X0.here hx rfl (hb hby at_36) rfl (l' := #[.val (.int p1), .val (.long p2), .second, .val (.int p3), .val (.long p4), .second, .val (.int p5), .val (.int (0 : Int32)), .val (.int (0 : Int32)), .val (.long p2), .second, .unset, .unset, .unset, .unset, .unset, .unset, .unset, .unset, .unset]) rfl) ?_
      show Go p.tables e below s₁ (mkF m 38 #[.val (.int p1), .val (.long p2), .second, .val (.int p3), .val (.long p4), .second, .val (.int p5), .val (.int (0 : Int32)), .val (.int (0 : Int32)), .val (.long p2), .second, .unset, .unset, .unset, .unset, .unset, .unset, .unset, .unset, .unset] []) _
      refine go1 (fun _ => XS.iload X0.here hx rfl (hb hby at_38) rfl) ?_
      show Go p.tables e below s₁ (mkF m 40 #[.val (.int p1), .val (.long p2), .second, .val (.int p3), .val (.long p4), .second, .val (.int p5), .val (.int (0 : Int32)), .val (.int (0 : Int32)), .val (.long p2), .second, .unset, .unset, .unset, .unset, .unset, .unset, .unset, .unset, .unset] [(.int p5)]) _
      refine go1 (fun _ => XS.iconst X0.here hx rfl (hb hby at_40)) ?_
      show Go p.tables e below s₁ (mkF m 41 #[.val (.int p1), .val (.long p2), .second, .val (.int p3), .val (.long p4), .second, .val (.int p5), .val (.int (0 : Int32)), .val (.int (0 : Int32)), .val (.long p2), .second, .unset, .unset, .unset, .unset, .unset, .unset, .unset, .unset, .unset] [(.int (3 : Int32)), (.int p5)]) _
      refine go1 (fun _ => XS.iand X0.here hx rfl (hb hby at_41) rfl) ?_
      show Go p.tables e below s₁ (mkF m 42 #[.val (.int p1), .val (.long p2), .second, .val (.int p3), .val (.long p4), .second, .val (.int p5), .val (.int (0 : Int32)), .val (.int (0 : Int32)), .val (.long p2), .second, .unset, .unset, .unset, .unset, .unset, .unset, .unset, .unset, .unset] [(.int (p5 &&& (3 : Int32)))]) _
      refine go1 (fun _ => XS.istore X0.here hx rfl (hb hby at_42) rfl (l' := #[.val (.int p1), .val (.long p2), .second, .val (.int p3), .val (.long p4), .second, .val (.int p5), .val (.int (0 : Int32)), .val (.int (0 : Int32)), .val (.long p2), .second, .val (.int (p5 &&& (3 : Int32))), .unset, .unset, .unset, .unset, .unset, .unset, .unset, .unset]) rfl) ?_
      show Go p.tables e below s₁ (mkF m 44 #[.val (.int p1), .val (.long p2), .second, .val (.int p3), .val (.long p4), .second, .val (.int p5), .val (.int (0 : Int32)), .val (.int (0 : Int32)), .val (.long p2), .second, .val (.int (p5 &&& (3 : Int32))), .unset, .unset, .unset, .unset, .unset, .unset, .unset, .unset] []) _
      refine go1 (fun _ => XS.iload X0.here hx rfl (hb hby at_44) rfl) ?_
      show Go p.tables e below s₁ (mkF m 46 #[.val (.int p1), .val (.long p2), .second, .val (.int p3), .val (.long p4), .second, .val (.int p5), .val (.int (0 : Int32)), .val (.int (0 : Int32)), .val (.long p2), .second, .val (.int (p5 &&& (3 : Int32))), .unset, .unset, .unset, .unset, .unset, .unset, .unset, .unset] [(.int (p5 &&& (3 : Int32)))]) _
      refine go1 (T' := s₁) (g' := (mkF m 100 #[.val (.int p1), .val (.long p2), .second, .val (.int p3), .val (.long p4), .second, .val (.int p5), .val (.int (0 : Int32)), .val (.int (0 : Int32)), .val (.long p2), .second, .val (.int (p5 &&& (3 : Int32))), .val (.long (if (p5 &&& (3 : Int32)) = (0 : Int32) then p4 else (if (p5 &&& (3 : Int32)) = (1 : Int32) then p2 else (if (p5 &&& (3 : Int32)) = (2 : Int32) then (p2 ^^^ ((1 : Int64) <<< ((((p5.toUInt32 >>> ((2 : Int32) &&& 31).toUInt32).toInt32) &&& (63 : Int32)) &&& 0x3f).toInt64)) else (p2 ^^^ (-1 : Int64)))))), .second, .unset, .unset, .unset, .unset, .unset, .unset] [])) (fun t k => ?_) ?_
      · by_cases hd3 : (p5 &&& (3 : Int32)) = (0 : Int32)
        · skip
          rw [(if_pos hd3 : (if (p5 &&& (3 : Int32)) = (0 : Int32) then p4 else (if (p5 &&& (3 : Int32)) = (1 : Int32) then p2 else (if (p5 &&& (3 : Int32)) = (2 : Int32) then (p2 ^^^ ((1 : Int64) <<< ((((p5.toUInt32 >>> ((2 : Int32) &&& 31).toUInt32).toInt32) &&& (63 : Int32)) &&& 0x3f).toInt64)) else (p2 ^^^ (-1 : Int64))))) = p4)] at k
          show Steps p.tables e below (s₁.setTop (mkF m 46 #[.val (.int p1), .val (.long p2), .second, .val (.int p3), .val (.long p4), .second, .val (.int p5), .val (.int (0 : Int32)), .val (.int (0 : Int32)), .val (.long p2), .second, .val (.int (p5 &&& (3 : Int32))), .unset, .unset, .unset, .unset, .unset, .unset, .unset, .unset] [(.int (p5 &&& (3 : Int32)))])) _
          refine XS.ifNo X0.here hx rfl (hb hby at_46) rfl ((if0 _ _).trans (teq hd3).2) ?_
          show Steps p.tables e below (s₁.setTop (mkF m 49 #[.val (.int p1), .val (.long p2), .second, .val (.int p3), .val (.long p4), .second, .val (.int p5), .val (.int (0 : Int32)), .val (.int (0 : Int32)), .val (.long p2), .second, .val (.int (p5 &&& (3 : Int32))), .unset, .unset, .unset, .unset, .unset, .unset, .unset, .unset] [])) _
          refine XS.lload X0.here hx rfl (hb hby at_49) rfl ?_
          show Steps p.tables e below (s₁.setTop (mkF m 51 #[.val (.int p1), .val (.long p2), .second, .val (.int p3), .val (.long p4), .second, .val (.int p5), .val (.int (0 : Int32)), .val (.int (0 : Int32)), .val (.long p2), .second, .val (.int (p5 &&& (3 : Int32))), .unset, .unset, .unset, .unset, .unset, .unset, .unset, .unset] [(.long p4)])) _
          refine XS.lstore X0.here hx rfl (hb hby at_51) rfl (l' := #[.val (.int p1), .val (.long p2), .second, .val (.int p3), .val (.long p4), .second, .val (.int p5), .val (.int (0 : Int32)), .val (.int (0 : Int32)), .val (.long p2), .second, .val (.int (p5 &&& (3 : Int32))), .val (.long p4), .second, .unset, .unset, .unset, .unset, .unset, .unset]) rfl ?_
          show Steps p.tables e below (s₁.setTop (mkF m 53 #[.val (.int p1), .val (.long p2), .second, .val (.int p3), .val (.long p4), .second, .val (.int p5), .val (.int (0 : Int32)), .val (.int (0 : Int32)), .val (.long p2), .second, .val (.int (p5 &&& (3 : Int32))), .val (.long p4), .second, .unset, .unset, .unset, .unset, .unset, .unset] [])) _
          refine XS.goto X0.here hx rfl (pc0 := 53) (pc' := 100) rfl (hb hby at_53) (by decide) (by decide) ?_
          show Steps p.tables e below (s₁.setTop (mkF m 100 #[.val (.int p1), .val (.long p2), .second, .val (.int p3), .val (.long p4), .second, .val (.int p5), .val (.int (0 : Int32)), .val (.int (0 : Int32)), .val (.long p2), .second, .val (.int (p5 &&& (3 : Int32))), .val (.long p4), .second, .unset, .unset, .unset, .unset, .unset, .unset] [])) _
          exact k
        · skip
          rw [(if_neg hd3 : (if (p5 &&& (3 : Int32)) = (0 : Int32) then p4 else (if (p5 &&& (3 : Int32)) = (1 : Int32) then p2 else (if (p5 &&& (3 : Int32)) = (2 : Int32) then (p2 ^^^ ((1 : Int64) <<< ((((p5.toUInt32 >>> ((2 : Int32) &&& 31).toUInt32).toInt32) &&& (63 : Int32)) &&& 0x3f).toInt64)) else (p2 ^^^ (-1 : Int64))))) = (if (p5 &&& (3 : Int32)) = (1 : Int32) then p2 else (if (p5 &&& (3 : Int32)) = (2 : Int32) then (p2 ^^^ ((1 : Int64) <<< ((((p5.toUInt32 >>> ((2 : Int32) &&& 31).toUInt32).toInt32) &&& (63 : Int32)) &&& 0x3f).toInt64)) else (p2 ^^^ (-1 : Int64)))))] at k
          show Steps p.tables e below (s₁.setTop (mkF m 46 #[.val (.int p1), .val (.long p2), .second, .val (.int p3), .val (.long p4), .second, .val (.int p5), .val (.int (0 : Int32)), .val (.int (0 : Int32)), .val (.long p2), .second, .val (.int (p5 &&& (3 : Int32))), .unset, .unset, .unset, .unset, .unset, .unset, .unset, .unset] [(.int (p5 &&& (3 : Int32)))])) _
          refine XS.ifYes X0.here hx rfl (pc0 := 46) (pc' := 56) rfl (hb hby at_46) rfl ((if0 _ _).trans (feq hd3).2) (by decide) (by decide) ?_
          show Steps p.tables e below (s₁.setTop (mkF m 56 #[.val (.int p1), .val (.long p2), .second, .val (.int p3), .val (.long p4), .second, .val (.int p5), .val (.int (0 : Int32)), .val (.int (0 : Int32)), .val (.long p2), .second, .val (.int (p5 &&& (3 : Int32))), .unset, .unset, .unset, .unset, .unset, .unset, .unset, .unset] [])) _
          refine XS.iload X0.here hx rfl (hb hby at_56) rfl ?_
          show Steps p.tables e below (s₁.setTop (mkF m 58 #[.val (.int p1), .val (.long p2), .second, .val (.int p3), .val (.long p4), .second, .val (.int p5), .val (.int (0 : Int32)), .val (.int (0 : Int32)), .val (.long p2), .second, .val (.int (p5 &&& (3 : Int32))), .unset, .unset, .unset, .unset, .unset, .unset, .unset, .unset] [(.int (p5 &&& (3 : Int32)))])) _
          refine XS.iconst X0.here hx rfl (hb hby at_58) ?_
          show Steps p.tables e below (s₁.setTop (mkF m 59 #[.val (.int p1), .val (.long p2), .second, .val (.int p3), .val (.long p4), .second, .val (.int p5), .val (.int (0 : Int32)), .val (.int (0 : Int32)), .val (.long p2), .second, .val (.int (p5 &&& (3 : Int32))), .unset, .unset, .unset, .unset, .unset, .unset, .unset, .unset] [(.int (1 : Int32)), (.int (p5 &&& (3 : Int32)))])) _
          refine stp (T' := s₁) (g' := (mkF m 100 #[.val (.int p1), .val (.long p2), .second, .val (.int p3), .val (.long p4), .second, .val (.int p5), .val (.int (0 : Int32)), .val (.int (0 : Int32)), .val (.long p2), .second, .val (.int (p5 &&& (3 : Int32))), .val (.long (if (p5 &&& (3 : Int32)) = (1 : Int32) then p2 else (if (p5 &&& (3 : Int32)) = (2 : Int32) then (p2 ^^^ ((1 : Int64) <<< ((((p5.toUInt32 >>> ((2 : Int32) &&& 31).toUInt32).toInt32) &&& (63 : Int32)) &&& 0x3f).toInt64)) else (p2 ^^^ (-1 : Int64))))), .second, .unset, .unset, .unset, .unset, .unset, .unset] [])) (fun t k => ?_) ?_
          · by_cases hd4 : (p5 &&& (3 : Int32)) = (1 : Int32)
            · skip
              rw [(if_pos hd4 : (if (p5 &&& (3 : Int32)) = (1 : Int32) then p2 else (if (p5 &&& (3 : Int32)) = (2 : Int32) then (p2 ^^^ ((1 : Int64) <<< ((((p5.toUInt32 >>> ((2 : Int32) &&& 31).toUInt32).toInt32) &&& (63 : Int32)) &&& 0x3f).toInt64)) else (p2 ^^^ (-1 : Int64)))) = p2)] at k
              show Steps p.tables e below (s₁.setTop (mkF m 59 #[.val (.int p1), .val (.long p2), .second, .val (.int p3), .val (.long p4), .second, .val (.int p5), .val (.int (0 : Int32)), .val (.int (0 : Int32)), .val (.long p2), .second, .val (.int (p5 &&& (3 : Int32))), .unset, .unset, .unset, .unset, .unset, .unset, .unset, .unset] [(.int (1 : Int32)), (.int (p5 &&& (3 : Int32)))])) _
              refine XS.icmpNo X0.here hx rfl (hb hby at_59) rfl (teq hd4).2 ?_
              show Steps p.tables e below (s₁.setTop (mkF m 62 #[.val (.int p1), .val (.long p2), .second, .val (.int p3), .val (.long p4), .second, .val (.int p5), .val (.int (0 : Int32)), .val (.int (0 : Int32)), .val (.long p2), .second, .val (.int (p5 &&& (3 : Int32))), .unset, .unset, .unset, .unset, .unset, .unset, .unset, .unset] [])) _
              refine XS.lload X0.here hx rfl (hb hby at_62) rfl ?_
              show Steps p.tables e below (s₁.setTop (mkF m 64 #[.val (.int p1), .val (.long p2), .second, .val (.int p3), .val (.long p4), .second, .val (.int p5), .val (.int (0 : Int32)), .val (.int (0 : Int32)), .val (.long p2), .second, .val (.int (p5 &&& (3 : Int32))), .unset, .unset, .unset, .unset, .unset, .unset, .unset, .unset] [(.long p2)])) _
              refine XS.lstore X0.here hx rfl (hb hby at_64) rfl (l' := #[.val (.int p1), .val (.long p2), .second, .val (.int p3), .val (.long p4), .second, .val (.int p5), .val (.int (0 : Int32)), .val (.int (0 : Int32)), .val (.long p2), .second, .val (.int (p5 &&& (3 : Int32))), .val (.long p2), .second, .unset, .unset, .unset, .unset, .unset, .unset]) rfl ?_
              show Steps p.tables e below (s₁.setTop (mkF m 66 #[.val (.int p1), .val (.long p2), .second, .val (.int p3), .val (.long p4), .second, .val (.int p5), .val (.int (0 : Int32)), .val (.int (0 : Int32)), .val (.long p2), .second, .val (.int (p5 &&& (3 : Int32))), .val (.long p2), .second, .unset, .unset, .unset, .unset, .unset, .unset] [])) _
              refine XS.goto X0.here hx rfl (pc0 := 66) (pc' := 100) rfl (hb hby at_66) (by decide) (by decide) ?_
              show Steps p.tables e below (s₁.setTop (mkF m 100 #[.val (.int p1), .val (.long p2), .second, .val (.int p3), .val (.long p4), .second, .val (.int p5), .val (.int (0 : Int32)), .val (.int (0 : Int32)), .val (.long p2), .second, .val (.int (p5 &&& (3 : Int32))), .val (.long p2), .second, .unset, .unset, .unset, .unset, .unset, .unset] [])) _
              exact k
            · skip
              rw [(if_neg hd4 : (if (p5 &&& (3 : Int32)) = (1 : Int32) then p2 else (if (p5 &&& (3 : Int32)) = (2 : Int32) then (p2 ^^^ ((1 : Int64) <<< ((((p5.toUInt32 >>> ((2 : Int32) &&& 31).toUInt32).toInt32) &&& (63 : Int32)) &&& 0x3f).toInt64)) else (p2 ^^^ (-1 : Int64)))) = (if (p5 &&& (3 : Int32)) = (2 : Int32) then (p2 ^^^ ((1 : Int64) <<< ((((p5.toUInt32 >>> ((2 : Int32) &&& 31).toUInt32).toInt32) &&& (63 : Int32)) &&& 0x3f).toInt64)) else (p2 ^^^ (-1 : Int64))))] at k
              show Steps p.tables e below (s₁.setTop (mkF m 59 #[.val (.int p1), .val (.long p2), .second, .val (.int p3), .val (.long p4), .second, .val (.int p5), .val (.int (0 : Int32)), .val (.int (0 : Int32)), .val (.long p2), .second, .val (.int (p5 &&& (3 : Int32))), .unset, .unset, .unset, .unset, .unset, .unset, .unset, .unset] [(.int (1 : Int32)), (.int (p5 &&& (3 : Int32)))])) _
              refine XS.icmpYes X0.here hx rfl (pc0 := 59) (pc' := 69) rfl (hb hby at_59) rfl (feq hd4).2 (by decide) (by decide) ?_
              show Steps p.tables e below (s₁.setTop (mkF m 69 #[.val (.int p1), .val (.long p2), .second, .val (.int p3), .val (.long p4), .second, .val (.int p5), .val (.int (0 : Int32)), .val (.int (0 : Int32)), .val (.long p2), .second, .val (.int (p5 &&& (3 : Int32))), .unset, .unset, .unset, .unset, .unset, .unset, .unset, .unset] [])) _
              refine XS.iload X0.here hx rfl (hb hby at_69) rfl ?_
              show Steps p.tables e below (s₁.setTop (mkF m 71 #[.val (.int p1), .val (.long p2), .second, .val (.int p3), .val (.long p4), .second, .val (.int p5), .val (.int (0 : Int32)), .val (.int (0 : Int32)), .val (.long p2), .second, .val (.int (p5 &&& (3 : Int32))), .unset, .unset, .unset, .unset, .unset, .unset, .unset, .unset] [(.int (p5 &&& (3 : Int32)))])) _
              refine XS.iconst X0.here hx rfl (hb hby at_71) ?_
              show Steps p.tables e below (s₁.setTop (mkF m 72 #[.val (.int p1), .val (.long p2), .second, .val (.int p3), .val (.long p4), .second, .val (.int p5), .val (.int (0 : Int32)), .val (.int (0 : Int32)), .val (.long p2), .second, .val (.int (p5 &&& (3 : Int32))), .unset, .unset, .unset, .unset, .unset, .unset, .unset, .unset] [(.int (2 : Int32)), (.int (p5 &&& (3 : Int32)))])) _
              refine stp (T' := s₁) (g' := (mkF m 100 #[.val (.int p1), .val (.long p2), .second, .val (.int p3), .val (.long p4), .second, .val (.int p5), .val (.int (0 : Int32)), .val (.int (0 : Int32)), .val (.long p2), .second, .val (.int (p5 &&& (3 : Int32))), .val (.long (if (p5 &&& (3 : Int32)) = (2 : Int32) then (p2 ^^^ ((1 : Int64) <<< ((((p5.toUInt32 >>> ((2 : Int32) &&& 31).toUInt32).toInt32) &&& (63 : Int32)) &&& 0x3f).toInt64)) else (p2 ^^^ (-1 : Int64)))), .second, .unset, .unset, .unset, .unset, .unset, .unset] [])) (fun t k => ?_) ?_
              · by_cases hd5 : (p5 &&& (3 : Int32)) = (2 : Int32)
                · skip
                  rw [(if_pos hd5 : (if (p5 &&& (3 : Int32)) = (2 : Int32) then (p2 ^^^ ((1 : Int64) <<< ((((p5.toUInt32 >>> ((2 : Int32) &&& 31).toUInt32).toInt32) &&& (63 : Int32)) &&& 0x3f).toInt64)) else (p2 ^^^ (-1 : Int64))) = (p2 ^^^ ((1 : Int64) <<< ((((p5.toUInt32 >>> ((2 : Int32) &&& 31).toUInt32).toInt32) &&& (63 : Int32)) &&& 0x3f).toInt64)))] at k
                  show Steps p.tables e below (s₁.setTop (mkF m 72 #[.val (.int p1), .val (.long p2), .second, .val (.int p3), .val (.long p4), .second, .val (.int p5), .val (.int (0 : Int32)), .val (.int (0 : Int32)), .val (.long p2), .second, .val (.int (p5 &&& (3 : Int32))), .unset, .unset, .unset, .unset, .unset, .unset, .unset, .unset] [(.int (2 : Int32)), (.int (p5 &&& (3 : Int32)))])) _
                  refine XS.icmpNo X0.here hx rfl (hb hby at_72) rfl (teq hd5).2 ?_
                  show Steps p.tables e below (s₁.setTop (mkF m 75 #[.val (.int p1), .val (.long p2), .second, .val (.int p3), .val (.long p4), .second, .val (.int p5), .val (.int (0 : Int32)), .val (.int (0 : Int32)), .val (.long p2), .second, .val (.int (p5 &&& (3 : Int32))), .unset, .unset, .unset, .unset, .unset, .unset, .unset, .unset] [])) _
                  refine XS.lload X0.here hx rfl (hb hby at_75) rfl ?_
                  show Steps p.tables e below (s₁.setTop (mkF m 77 #[.val (.int p1), .val (.long p2), .second, .val (.int p3), .val (.long p4), .second, .val (.int p5), .val (.int (0 : Int32)), .val (.int (0 : Int32)), .val (.long p2), .second, .val (.int (p5 &&& (3 : Int32))), .unset, .unset, .unset, .unset, .unset, .unset, .unset, .unset] [(.long p2)])) _
                  refine XS.lconst X0.here hx rfl (hb hby at_77) ?_
                  show Steps p.tables e below (s₁.setTop (mkF m 78 #[.val (.int p1), .val (.long p2), .second, .val (.int p3), .val (.long p4), .second, .val (.int p5), .val (.int (0 : Int32)), .val (.int (0 : Int32)), .val (.long p2), .second, .val (.int (p5 &&& (3 : Int32))), .unset, .unset, .unset, .unset, .unset, .unset, .unset, .unset] [(.long (1 : Int64)), (.long p2)])) _
                  refine XS.iload X0.here hx rfl (hb hby at_78) rfl ?_
                  show Steps p.tables e below (s₁.setTop (mkF m 80 #[.val (.int p1), .val (.long p2), .second, .val (.int p3), .val (.long p4), .second, .val (.int p5), .val (.int (0 : Int32)), .val (.int (0 : Int32)), .val (.long p2), .second, .val (.int (p5 &&& (3 : Int32))), .unset, .unset, .unset, .unset, .unset, .unset, .unset, .unset] [(.int p5), (.long (1 : Int64)), (.long p2)])) _
                  refine XS.iconst X0.here hx rfl (hb hby at_80) ?_
                  show Steps p.tables e below (s₁.setTop (mkF m 81 #[.val (.int p1), .val (.long p2), .second, .val (.int p3), .val (.long p4), .second, .val (.int p5), .val (.int (0 : Int32)), .val (.int (0 : Int32)), .val (.long p2), .second, .val (.int (p5 &&& (3 : Int32))), .unset, .unset, .unset, .unset, .unset, .unset, .unset, .unset] [(.int (2 : Int32)), (.int p5), (.long (1 : Int64)), (.long p2)])) _
                  refine XS.iushr X0.here hx rfl (hb hby at_81) rfl ?_
                  show Steps p.tables e below (s₁.setTop (mkF m 82 #[.val (.int p1), .val (.long p2), .second, .val (.int p3), .val (.long p4), .second, .val (.int p5), .val (.int (0 : Int32)), .val (.int (0 : Int32)), .val (.long p2), .second, .val (.int (p5 &&& (3 : Int32))), .unset, .unset, .unset, .unset, .unset, .unset, .unset, .unset] [(.int ((p5.toUInt32 >>> ((2 : Int32) &&& 31).toUInt32).toInt32)), (.long (1 : Int64)), (.long p2)])) _
                  refine XS.bipush X0.here hx rfl (hb hby at_82) ?_
                  show Steps p.tables e below (s₁.setTop (mkF m 84 #[.val (.int p1), .val (.long p2), .second, .val (.int p3), .val (.long p4), .second, .val (.int p5), .val (.int (0 : Int32)), .val (.int (0 : Int32)), .val (.long p2), .second, .val (.int (p5 &&& (3 : Int32))), .unset, .unset, .unset, .unset, .unset, .unset, .unset, .unset] [(.int (63 : Int32)), (.int ((p5.toUInt32 >>> ((2 : Int32) &&& 31).toUInt32).toInt32)), (.long (1 : Int64)), (.long p2)])) _
                  refine XS.iand X0.here hx rfl (hb hby at_84) rfl ?_
                  show Steps p.tables e below (s₁.setTop (mkF m 85 #[.val (.int p1), .val (.long p2), .second, .val (.int p3), .val (.long p4), .second, .val (.int p5), .val (.int (0 : Int32)), .val (.int (0 : Int32)), .val (.long p2), .second, .val (.int (p5 &&& (3 : Int32))), .unset, .unset, .unset, .unset, .unset, .unset, .unset, .unset] [(.int (((p5.toUInt32 >>> ((2 : Int32) &&& 31).toUInt32).toInt32) &&& (63 : Int32))), (.long (1 : Int64)), (.long p2)])) _
                  refine XS.lshl X0.here hx rfl (hb hby at_85) rfl ?_
                  show Steps p.tables e below (s₁.setTop (mkF m 86 #[.val (.int p1), .val (.long p2), .second, .val (.int p3), .val (.long p4), .second, .val (.int p5), .val (.int (0 : Int32)), .val (.int (0 : Int32)), .val (.long p2), .second, .val (.int (p5 &&& (3 : Int32))), .unset, .unset, .unset, .unset, .unset, .unset, .unset, .unset] [(.long ((1 : Int64) <<< ((((p5.toUInt32 >>> ((2 : Int32) &&& 31).toUInt32).toInt32) &&& (63 : Int32)) &&& 0x3f).toInt64)), (.long p2)])) _
                  refine XS.lxor X0.here hx rfl (hb hby at_86) rfl ?_
                  show Steps p.tables e below (s₁.setTop (mkF m 87 #[.val (.int p1), .val (.long p2), .second, .val (.int p3), .val (.long p4), .second, .val (.int p5), .val (.int (0 : Int32)), .val (.int (0 : Int32)), .val (.long p2), .second, .val (.int (p5 &&& (3 : Int32))), .unset, .unset, .unset, .unset, .unset, .unset, .unset, .unset] [(.long (p2 ^^^ ((1 : Int64) <<< ((((p5.toUInt32 >>> ((2 : Int32) &&& 31).toUInt32).toInt32) &&& (63 : Int32)) &&& 0x3f).toInt64)))])) _
                  refine XS.lstore X0.here hx rfl (hb hby at_87) rfl (l' := #[.val (.int p1), .val (.long p2), .second, .val (.int p3), .val (.long p4), .second, .val (.int p5), .val (.int (0 : Int32)), .val (.int (0 : Int32)), .val (.long p2), .second, .val (.int (p5 &&& (3 : Int32))), .val (.long (p2 ^^^ ((1 : Int64) <<< ((((p5.toUInt32 >>> ((2 : Int32) &&& 31).toUInt32).toInt32) &&& (63 : Int32)) &&& 0x3f).toInt64))), .second, .unset, .unset, .unset, .unset, .unset, .unset]) rfl ?_
                  show Steps p.tables e below (s₁.setTop (mkF m 89 #[.val (.int p1), .val (.long p2), .second, .val (.int p3), .val (.long p4), .second, .val (.int p5), .val (.int (0 : Int32)), .val (.int (0 : Int32)), .val (.long p2), .second, .val (.int (p5 &&& (3 : Int32))), .val (.long (p2 ^^^ ((1 : Int64) <<< ((((p5.toUInt32 >>> ((2 : Int32) &&& 31).toUInt32).toInt32) &&& (63 : Int32)) &&& 0x3f).toInt64))), .second, .unset, .unset, .unset, .unset, .unset, .unset] [])) _
                  refine XS.goto X0.here hx rfl (pc0 := 89) (pc' := 100) rfl (hb hby at_89) (by decide) (by decide) ?_
                  show Steps p.tables e below (s₁.setTop (mkF m 100 #[.val (.int p1), .val (.long p2), .second, .val (.int p3), .val (.long p4), .second, .val (.int p5), .val (.int (0 : Int32)), .val (.int (0 : Int32)), .val (.long p2), .second, .val (.int (p5 &&& (3 : Int32))), .val (.long (p2 ^^^ ((1 : Int64) <<< ((((p5.toUInt32 >>> ((2 : Int32) &&& 31).toUInt32).toInt32) &&& (63 : Int32)) &&& 0x3f).toInt64))), .second, .unset, .unset, .unset, .unset, .unset, .unset] [])) _
                  exact k
                · skip
                  rw [(if_neg hd5 : (if (p5 &&& (3 : Int32)) = (2 : Int32) then (p2 ^^^ ((1 : Int64) <<< ((((p5.toUInt32 >>> ((2 : Int32) &&& 31).toUInt32).toInt32) &&& (63 : Int32)) &&& 0x3f).toInt64)) else (p2 ^^^ (-1 : Int64))) = (p2 ^^^ (-1 : Int64)))] at k
                  show Steps p.tables e below (s₁.setTop (mkF m 72 #[.val (.int p1), .val (.long p2), .second, .val (.int p3), .val (.long p4), .second, .val (.int p5), .val (.int (0 : Int32)), .val (.int (0 : Int32)), .val (.long p2), .second, .val (.int (p5 &&& (3 : Int32))), .unset, .unset, .unset, .unset, .unset, .unset, .unset, .unset] [(.int (2 : Int32)), (.int (p5 &&& (3 : Int32)))])) _
                  refine XS.icmpYes X0.here hx rfl (pc0 := 72) (pc' := 92) rfl (hb hby at_72) rfl (feq hd5).2 (by decide) (by decide) ?_
                  show Steps p.tables e below (s₁.setTop (mkF m 92 #[.val (.int p1), .val (.long p2), .second, .val (.int p3), .val (.long p4), .second, .val (.int p5), .val (.int (0 : Int32)), .val (.int (0 : Int32)), .val (.long p2), .second, .val (.int (p5 &&& (3 : Int32))), .unset, .unset, .unset, .unset, .unset, .unset, .unset, .unset] [])) _
                  refine XS.lload X0.here hx rfl (hb hby at_92) rfl ?_
                  show Steps p.tables e below (s₁.setTop (mkF m 94 #[.val (.int p1), .val (.long p2), .second, .val (.int p3), .val (.long p4), .second, .val (.int p5), .val (.int (0 : Int32)), .val (.int (0 : Int32)), .val (.long p2), .second, .val (.int (p5 &&& (3 : Int32))), .unset, .unset, .unset, .unset, .unset, .unset, .unset, .unset] [(.long p2)])) _
                  refine X0.ldc2Long hx hown (mvT hZ (hw _ (List.mem_of_getElem? (i := 25) rfl))) (g := (mkF m 94 #[.val (.int p1), .val (.long p2), .second, .val (.int p3), .val (.long p4), .second, .val (.int p5), .val (.int (0 : Int32)), .val (.int (0 : Int32)), .val (.long p2), .second, .val (.int (p5 &&& (3 : Int32))), .unset, .unset, .unset, .unset, .unset, .unset, .unset, .unset] [(.long p2)])) rfl (hb hby at_94) _ ?_
                  show Steps p.tables e below (s₁.setTop (mkF m 97 #[.val (.int p1), .val (.long p2), .second, .val (.int p3), .val (.long p4), .second, .val (.int p5), .val (.int (0 : Int32)), .val (.int (0 : Int32)), .val (.long p2), .second, .val (.int (p5 &&& (3 : Int32))), .unset, .unset, .unset, .unset, .unset, .unset, .unset, .unset] [(.long (-1 : Int64)), (.long p2)])) _
                  refine XS.lxor X0.here hx rfl (hb hby at_97) rfl ?_
                  show Steps p.tables e below (s₁.setTop (mkF m 98 #[.val (.int p1), .val (.long p2), .second, .val (.int p3), .val (.long p4), .second, .val (.int p5), .val (.int (0 : Int32)), .val (.int (0 : Int32)), .val (.long p2), .second, .val (.int (p5 &&& (3 : Int32))), .unset, .unset, .unset, .unset, .unset, .unset, .unset, .unset] [(.long (p2 ^^^ (-1 : Int64)))])) _
                  refine XS.lstore X0.here hx rfl (hb hby at_98) rfl (l' := #[.val (.int p1), .val (.long p2), .second, .val (.int p3), .val (.long p4), .second, .val (.int p5), .val (.int (0 : Int32)), .val (.int (0 : Int32)), .val (.long p2), .second, .val (.int (p5 &&& (3 : Int32))), .val (.long (p2 ^^^ (-1 : Int64))), .second, .unset, .unset, .unset, .unset, .unset, .unset]) rfl ?_
                  show Steps p.tables e below (s₁.setTop (mkF m 100 #[.val (.int p1), .val (.long p2), .second, .val (.int p3), .val (.long p4), .second, .val (.int p5), .val (.int (0 : Int32)), .val (.int (0 : Int32)), .val (.long p2), .second, .val (.int (p5 &&& (3 : Int32))), .val (.long (p2 ^^^ (-1 : Int64))), .second, .unset, .unset, .unset, .unset, .unset, .unset] [])) _
                  exact k
              show Steps p.tables e below (s₁.setTop (mkF m 100 #[.val (.int p1), .val (.long p2), .second, .val (.int p3), .val (.long p4), .second, .val (.int p5), .val (.int (0 : Int32)), .val (.int (0 : Int32)), .val (.long p2), .second, .val (.int (p5 &&& (3 : Int32))), .val (.long (if (p5 &&& (3 : Int32)) = (2 : Int32) then (p2 ^^^ ((1 : Int64) <<< ((((p5.toUInt32 >>> ((2 : Int32) &&& 31).toUInt32).toInt32) &&& (63 : Int32)) &&& 0x3f).toInt64)) else (p2 ^^^ (-1 : Int64)))), .second, .unset, .unset, .unset, .unset, .unset, .unset] [])) _
              exact k
          show Steps p.tables e below (s₁.setTop (mkF m 100 #[.val (.int p1), .val (.long p2), .second, .val (.int p3), .val (.long p4), .second, .val (.int p5), .val (.int (0 : Int32)), .val (.int (0 : Int32)), .val (.long p2), .second, .val (.int (p5 &&& (3 : Int32))), .val (.long (if (p5 &&& (3 : Int32)) = (1 : Int32) then p2 else (if (p5 &&& (3 : Int32)) = (2 : Int32) then (p2 ^^^ ((1 : Int64) <<< ((((p5.toUInt32 >>> ((2 : Int32) &&& 31).toUInt32).toInt32) &&& (63 : Int32)) &&& 0x3f).toInt64)) else (p2 ^^^ (-1 : Int64))))), .second, .unset, .unset, .unset, .unset, .unset, .unset] [])) _
          exact k
      show Go p.tables e below s₁ (mkF m 100 #[.val (.int p1), .val (.long p2), .second, .val (.int p3), .val (.long p4), .second, .val (.int p5), .val (.int (0 : Int32)), .val (.int (0 : Int32)), .val (.long p2), .second, .val (.int (p5 &&& (3 : Int32))), .val (.long (if (p5 &&& (3 : Int32)) = (0 : Int32) then p4 else (if (p5 &&& (3 : Int32)) = (1 : Int32) then p2 else (if (p5 &&& (3 : Int32)) = (2 : Int32) then (p2 ^^^ ((1 : Int64) <<< ((((p5.toUInt32 >>> ((2 : Int32) &&& 31).toUInt32).toInt32) &&& (63 : Int32)) &&& 0x3f).toInt64)) else (p2 ^^^ (-1 : Int64)))))), .second, .unset, .unset, .unset, .unset, .unset, .unset] []) _
      obtain ⟨z6, hz6⟩ : ∃ z : Int64, z = (if (p5 &&& (3 : Int32)) = (0 : Int32) then p4 else (if (p5 &&& (3 : Int32)) = (1 : Int32) then p2 else (if (p5 &&& (3 : Int32)) = (2 : Int32) then (p2 ^^^ ((1 : Int64) <<< ((((p5.toUInt32 >>> ((2 : Int32) &&& 31).toUInt32).toInt32) &&& (63 : Int32)) &&& 0x3f).toInt64)) else (p2 ^^^ (-1 : Int64))))) := ⟨_, rfl⟩
      rw [← hz6]
      show Go p.tables e below s₁ (mkF m 100 #[.val (.int p1), .val (.long p2), .second, .val (.int p3), .val (.long p4), .second, .val (.int p5), .val (.int (0 : Int32)), .val (.int (0 : Int32)), .val (.long p2), .second, .val (.int (p5 &&& (3 : Int32))), .val (.long z6), .second, .unset, .unset, .unset, .unset, .unset, .unset] []) _
      refine go1 (fun _ => XS.iload X0.here hx rfl (hb hby at_100) rfl) ?_
      show Go p.tables e below s₁ (mkF m 102 #[.val (.int p1), .val (.long p2), .second, .val (.int p3), .val (.long p4), .second, .val (.int p5), .val (.int (0 : Int32)), .val (.int (0 : Int32)), .val (.long p2), .second, .val (.int (p5 &&& (3 : Int32))), .val (.long z6), .second, .unset, .unset, .unset, .unset, .unset, .unset] [(.int (0 : Int32))]) _
      refine go1 (fun _ => XS.ifYes X0.here hx rfl (pc0 := 102) (pc' := 109) rfl (hb hby at_102) rfl ((if0 _ _).trans (teq (by decide : (0 : Int32) = (0 : Int32))).1) (by decide) (by decide)) ?_
      show Go p.tables e below s₁ (mkF m 109 #[.val (.int p1), .val (.long p2), .second, .val (.int p3), .val (.long p4), .second, .val (.int p5), .val (.int (0 : Int32)), .val (.int (0 : Int32)), .val (.long p2), .second, .val (.int (p5 &&& (3 : Int32))), .val (.long z6), .second, .unset, .unset, .unset, .unset, .unset, .unset] []) _
      refine go1 (fun _ => XS.lload X0.here hx rfl (hb hby at_109) rfl) ?_
      show Go p.tables e below s₁ (mkF m 111 #[.val (.int p1), .val (.long p2), .second, .val (.int p3), .val (.long p4), .second, .val (.int p5), .val (.int (0 : Int32)), .val (.int (0 : Int32)), .val (.long p2), .second, .val (.int (p5 &&& (3 : Int32))), .val (.long z6), .second, .unset, .unset, .unset, .unset, .unset, .unset] [(.long z6)]) _
      refine go1 (fun _ => XS.lstore X0.here hx rfl (hb hby at_111) rfl (l' := #[.val (.int p1), .val (.long p2), .second, .val (.int p3), .val (.long p4), .second, .val (.int p5), .val (.int (0 : Int32)), .val (.int (0 : Int32)), .val (.long p2), .second, .val (.int (p5 &&& (3 : Int32))), .val (.long z6), .second, .val (.long z6), .second, .unset, .unset, .unset, .unset]) rfl) ?_
      show Go p.tables e below s₁ (mkF m 113 #[.val (.int p1), .val (.long p2), .second, .val (.int p3), .val (.long p4), .second, .val (.int p5), .val (.int (0 : Int32)), .val (.int (0 : Int32)), .val (.long p2), .second, .val (.int (p5 &&& (3 : Int32))), .val (.long z6), .second, .val (.long z6), .second, .unset, .unset, .unset, .unset] []) _
      obtain ⟨T7, h7, X7, e7, E7, A7, D7, -, st7⟩ := newO X0 hx hZ hown (hw _ (List.mem_of_getElem? (i := 0) rfl)) (hw _ (List.mem_of_getElem? (i := 1) rfl)) (hw _ (List.mem_of_getElem? (i := 2) rfl)) e0 (g := (mkF m 113 #[.val (.int p1), .val (.long p2), .second, .val (.int p3), .val (.long p4), .second, .val (.int p5), .val (.int (0 : Int32)), .val (.int (0 : Int32)), .val (.long p2), .second, .val (.int (p5 &&& (3 : Int32))), .val (.long z6), .second, .val (.long z6), .second, .unset, .unset, .unset, .unset] [])) rfl (hb hby at_113) (by decide) (by decide)
      obtain ⟨b7, g7⟩ : ∃ z, z = h0.size := ⟨_, rfl⟩
      rw [← g7] at A7 D7 st7
      have g_b7 : n0 ≤ b7 := Nat.le_trans Z0 (Nat.le_of_eq g7.symm)
      have F_isDefault_b7 : Fld Z h7 b7 "com/example/stubwright/stubwright/idl/UnionType$Label" "isDefault" "Z" (.int (0 : Int32)) := D7 (Or.inr (hw _ (List.mem_of_getElem? (i := 15) rfl))) (ty := .boolean) (by decide)
      have F_value_b7 : Fld Z h7 b7 "com/example/stubwright/stubwright/idl/UnionType$Label" "value" "J" (.long (0 : Int64)) := D7 (Or.inr (hw _ (List.mem_of_getElem? (i := 17) rfl))) (ty := .long) (by decide)
      refine go1 st7 ?_
      show Go p.tables e below T7 (mkF m 116 #[.val (.int p1), .val (.long p2), .second, .val (.int p3), .val (.long p4), .second, .val (.int p5), .val (.int (0 : Int32)), .val (.int (0 : Int32)), .val (.long p2), .second, .val (.int (p5 &&& (3 : Int32))), .val (.long z6), .second, .val (.long z6), .second, .unset, .unset, .unset, .unset] [(.ref b7)]) _
      refine go1 (fun _ => XS.dup X7.here hx rfl (hb hby at_116) rfl rfl) ?_
      show Go p.tables e below T7 (mkF m 117 #[.val (.int p1), .val (.long p2), .second, .val (.int p3), .val (.long p4), .second, .val (.int p5), .val (.int (0 : Int32)), .val (.int (0 : Int32)), .val (.long p2), .second, .val (.int (p5 &&& (3 : Int32))), .val (.long z6), .second, .val (.long z6), .second, .unset, .unset, .unset, .unset] [(.ref b7), (.ref b7)]) _
      refine go1 (fun _ => XS.iload X7.here hx rfl (hb hby at_117) rfl) ?_
      show Go p.tables e below T7 (mkF m 119 #[.val (.int p1), .val (.long p2), .second, .val (.int p3), .val (.long p4), .second, .val (.int p5), .val (.int (0 : Int32)), .val (.int (0 : Int32)), .val (.long p2), .second, .val (.int (p5 &&& (3 : Int32))), .val (.long z6), .second, .val (.long z6), .second, .unset, .unset, .unset, .unset] [(.int (0 : Int32)), (.ref b7), (.ref b7)]) _
      refine go1 (fun _ => XS.lload X7.here hx rfl (hb hby at_119) rfl) ?_
      show Go p.tables e below T7 (mkF m 121 #[.val (.int p1), .val (.long p2), .second, .val (.int p3), .val (.long p4), .second, .val (.int p5), .val (.int (0 : Int32)), .val (.int (0 : Int32)), .val (.long p2), .second, .val (.int (p5 &&& (3 : Int32))), .val (.long z6), .second, .val (.long z6), .second, .unset, .unset, .unset, .unset] [(.long p2), (.int (0 : Int32)), (.ref b7), (.ref b7)]) _
      obtain ⟨_, _, ⟨T8, L8, k8, n8⟩, -, X8, ⟨Lc8, hQ8, l8, y8, z8⟩, st8⟩ := X7.specialBack hx (y := (⟨"com/example/stubwright/stubwright/idl/UnionType$Label", "<init>", "(ZJ)V"⟩ : MethodName)) rfl hown (mvT hZ (hw _ (List.mem_of_getElem? (i := 3) rfl))) (mvT hZ (hw _ (List.mem_of_getElem? (i := 4) rfl))) (mvT hZ (hw _ (List.mem_of_getElem? (i := 5) rfl))) (by decide) (backOf (W := 1) (rm1a l Z a0 hw [] b7 p2 h7 n0 (Nat.le_trans Z0 E7.1) F_isDefault_b7 F_value_b7 A7 g_b7) hZ (hw _ (List.mem_of_getElem? (i := 5) rfl)) (hw _ (List.mem_of_getElem? (i := 2) rfl)) (by decide) (by decide)) (g := (mkF m 121 #[.val (.int p1), .val (.long p2), .second, .val (.int p3), .val (.long p4), .second, .val (.int p5), .val (.int (0 : Int32)), .val (.int (0 : Int32)), .val (.long p2), .second, .val (.int (p5 &&& (3 : Int32))), .val (.long z6), .second, .val (.long z6), .second, .unset, .unset, .unset, .unset] [(.long p2), (.int (0 : Int32)), (.ref b7), (.ref b7)])) rfl (by rw [hml]; rfl) (Steps.refl _) (a := b7) (argsL := [(.int (0 : Int32)), (.long p2)]) (rest := [(.ref b7)]) (lenOf pd0_0 rfl) rfl (by show 2 * 0 + _ ≤ _; exact Nat.le_of_eq rfl) (hb hby at_121) (fun _ _ => ⟨rfl, e7, (by decide : 1 + 0 ≤ _), (by decide : 2 + 0 ≤ _)⟩)
      dsimp only [Pt.U, Pt.locs, Pt.cells, Pt.slots] at X8 l8 y8 z8 st8 hQ8
      subst l8 y8 z8
      obtain ⟨rfl, N8q, K8, G8_0, G8_1, G8_2⟩ := hQ8
      have N8 := Fr.app N0 N8q
      refine goT st8 ?_
      show Go p.tables e below T8 (mkF m 124 #[.val (.int p1), .val (.long p2), .second, .val (.int p3), .val (.long p4), .second, .val (.int p5), .val (.int (0 : Int32)), .val (.int (0 : Int32)), .val (.long p2), .second, .val (.int (p5 &&& (3 : Int32))), .val (.long z6), .second, .val (.long z6), .second, .unset, .unset, .unset, .unset] [(.ref b7)]) _
      refine go1 (fun _ => XS.astore X8.here hx rfl (hb hby at_124) rfl rfl (l' := #[.val (.int p1), .val (.long p2), .second, .val (.int p3), .val (.long p4), .second, .val (.int p5), .val (.int (0 : Int32)), .val (.int (0 : Int32)), .val (.long p2), .second, .val (.int (p5 &&& (3 : Int32))), .val (.long z6), .second, .val (.long z6), .second, .val (.ref b7), .unset, .unset, .unset]) rfl) ?_
      show Go p.tables e below T8 (mkF m 126 #[.val (.int p1), .val (.long p2), .second, .val (.int p3), .val (.long p4), .second, .val (.int p5), .val (.int (0 : Int32)), .val (.int (0 : Int32)), .val (.long p2), .second, .val (.int (p5 &&& (3 : Int32))), .val (.long z6), .second, .val (.long z6), .second, .val (.ref b7), .unset, .unset, .unset] []) _
      obtain ⟨T9, h9, X9, e9, E9, A9, D9, -, st9⟩ := newO X8 hx hZ hown (hw _ (List.mem_of_getElem? (i := 0) rfl)) (hw _ (List.mem_of_getElem? (i := 1) rfl)) (hw _ (List.mem_of_getElem? (i := 2) rfl)) rfl (g := (mkF m 126 #[.val (.int p1), .val (.long p2), .second, .val (.int p3), .val (.long p4), .second, .val (.int p5), .val (.int (0 : Int32)), .val (.int (0 : Int32)), .val (.long p2), .second, .val (.int (p5 &&& (3 : Int32))), .val (.long z6), .second, .val (.long z6), .second, .val (.ref b7), .unset, .unset, .unset] [])) rfl (hb hby at_126) (by decide) (by decide)
      obtain ⟨b9, g9⟩ : ∃ z, z = T8.heap.size := ⟨_, rfl⟩
      rw [← g9] at A9 D9 st9
      have g_b9 : n0 ≤ b9 := Nat.le_trans (Nat.le_trans (Nat.le_trans Z0 E7.1) K8.1) (Nat.le_of_eq g9.symm)
      have F_isDefault_b9 : Fld Z h9 b9 "com/example/stubwright/stubwright/idl/UnionType$Label" "isDefault" "Z" (.int (0 : Int32)) := D9 (Or.inr (hw _ (List.mem_of_getElem? (i := 15) rfl))) (ty := .boolean) (by decide)
      have F_value_b9 : Fld Z h9 b9 "com/example/stubwright/stubwright/idl/UnionType$Label" "value" "J" (.long (0 : Int64)) := D9 (Or.inr (hw _ (List.mem_of_getElem? (i := 17) rfl))) (ty := .long) (by decide)
      refine go1 st9 ?_
      show Go p.tables e below T9 (mkF m 129 #[.val (.int p1), .val (.long p2), .second, .val (.int p3), .val (.long p4), .second, .val (.int p5), .val (.int (0 : Int32)), .val (.int (0 : Int32)), .val (.long p2), .second, .val (.int (p5 &&& (3 : Int32))), .val (.long z6), .second, .val (.long z6), .second, .val (.ref b7), .unset, .unset, .unset] [(.ref b9)]) _
      refine go1 (fun _ => XS.dup X9.here hx rfl (hb hby at_129) rfl rfl) ?_
      show Go p.tables e below T9 (mkF m 130 #[.val (.int p1), .val (.long p2), .second, .val (.int p3), .val (.long p4), .second, .val (.int p5), .val (.int (0 : Int32)), .val (.int (0 : Int32)), .val (.long p2), .second, .val (.int (p5 &&& (3 : Int32))), .val (.long z6), .second, .val (.long z6), .second, .val (.ref b7), .unset, .unset, .unset] [(.ref b9), (.ref b9)]) _
      refine go1 (fun _ => XS.iload X9.here hx rfl (hb hby at_130) rfl) ?_
      show Go p.tables e below T9 (mkF m 132 #[.val (.int p1), .val (.long p2), .second, .val (.int p3), .val (.long p4), .second, .val (.int p5), .val (.int (0 : Int32)), .val (.int (0 : Int32)), .val (.long p2), .second, .val (.int (p5 &&& (3 : Int32))), .val (.long z6), .second, .val (.long z6), .second, .val (.ref b7), .unset, .unset, .unset] [(.int (0 : Int32)), (.ref b9), (.ref b9)]) _
      refine go1 (fun _ => XS.lload X9.here hx rfl (hb hby at_132) rfl) ?_
      show Go p.tables e below T9 (mkF m 134 #[.val (.int p1), .val (.long p2), .second, .val (.int p3), .val (.long p4), .second, .val (.int p5), .val (.int (0 : Int32)), .val (.int (0 : Int32)), .val (.long p2), .second, .val (.int (p5 &&& (3 : Int32))), .val (.long z6), .second, .val (.long z6), .second, .val (.ref b7), .unset, .unset, .unset] [(.long z6), (.int (0 : Int32)), (.ref b9), (.ref b9)]) _
      obtain ⟨_, _, ⟨T10, L10, k10, n10⟩, -, X10, ⟨Lc10, hQ10, l10, y10, z10⟩, st10⟩ := X9.specialBack hx (y := (⟨"com/example/stubwright/stubwright/idl/UnionType$Label", "<init>", "(ZJ)V"⟩ : MethodName)) rfl hown (mvT hZ (hw _ (List.mem_of_getElem? (i := 3) rfl))) (mvT hZ (hw _ (List.mem_of_getElem? (i := 4) rfl))) (mvT hZ (hw _ (List.mem_of_getElem? (i := 5) rfl))) (by decide) (backOf (W := 1) (rm1a l Z a0 hw [] b9 z6 h9 n0 (Nat.le_trans (Nat.le_trans (Nat.le_trans Z0 E7.1) K8.1) E9.1) F_isDefault_b9 F_value_b9 A9 g_b9) hZ (hw _ (List.mem_of_getElem? (i := 5) rfl)) (hw _ (List.mem_of_getElem? (i := 2) rfl)) (by decide) (by decide)) (g := (mkF m 134 #[.val (.int p1), .val (.long p2), .second, .val (.int p3), .val (.long p4), .second, .val (.int p5), .val (.int (0 : Int32)), .val (.int (0 : Int32)), .val (.long p2), .second, .val (.int (p5 &&& (3 : Int32))), .val (.long z6), .second, .val (.long z6), .second, .val (.ref b7), .unset, .unset, .unset] [(.long z6), (.int (0 : Int32)), (.ref b9), (.ref b9)])) rfl (by rw [hml]; rfl) (Steps.refl _) (a := b9) (argsL := [(.int (0 : Int32)), (.long z6)]) (rest := [(.ref b9)]) (lenOf pd0_0 rfl) rfl (by show 2 * 0 + _ ≤ _; exact Nat.le_of_eq rfl) (hb hby at_134) (fun _ _ => ⟨rfl, e9, (by decide : 2 + 0 ≤ _), (by decide : 4 + 0 ≤ _)⟩)
      dsimp only [Pt.U, Pt.locs, Pt.cells, Pt.slots] at X10 l10 y10 z10 st10 hQ10
      subst l10 y10 z10
      obtain ⟨rfl, N10q, K10, G10_0, G10_1, G10_2⟩ := hQ10
      have N10 := Fr.app N8 N10q
      refine goT st10 ?_
      show Go p.tables e below T10 (mkF m 137 #[.val (.int p1), .val (.long p2), .second, .val (.int p3), .val (.long p4), .second, .val (.int p5), .val (.int (0 : Int32)), .val (.int (0 : Int32)), .val (.long p2), .second, .val (.int (p5 &&& (3 : Int32))), .val (.long z6), .second, .val (.long z6), .second, .val (.ref b7), .unset, .unset, .unset] [(.ref b9)]) _
      refine go1 (fun _ => XS.astore X10.here hx rfl (hb hby at_137) rfl rfl (l' := #[.val (.int p1), .val (.long p2), .second, .val (.int p3), .val (.long p4), .second, .val (.int p5), .val (.int (0 : Int32)), .val (.int (0 : Int32)), .val (.long p2), .second, .val (.int (p5 &&& (3 : Int32))), .val (.long z6), .second, .val (.long z6), .second, .val (.ref b7), .val (.ref b9), .unset, .unset]) rfl) ?_
      show Go p.tables e below T10 (mkF m 139 #[.val (.int p1), .val (.long p2), .second, .val (.int p3), .val (.long p4), .second, .val (.int p5), .val (.int (0 : Int32)), .val (.int (0 : Int32)), .val (.long p2), .second, .val (.int (p5 &&& (3 : Int32))), .val (.long z6), .second, .val (.long z6), .second, .val (.ref b7), .val (.ref b9), .unset, .unset] []) _
      refine go1 (fun _ => XS.iload X10.here hx rfl (hb hby at_139) rfl) ?_
      show Go p.tables e below T10 (mkF m 141 #[.val (.int p1), .val (.long p2), .second, .val (.int p3), .val (.long p4), .second, .val (.int p5), .val (.int (0 : Int32)), .val (.int (0 : Int32)), .val (.long p2), .second, .val (.int (p5 &&& (3 : Int32))), .val (.long z6), .second, .val (.long z6), .second, .val (.ref b7), .val (.ref b9), .unset, .unset] [(.int p5)]) _
      refine go1 (fun _ => XS.bipush X10.here hx rfl (hb hby at_141)) ?_
      show Go p.tables e below T10 (mkF m 143 #[.val (.int p1), .val (.long p2), .second, .val (.int p3), .val (.long p4), .second, .val (.int p5), .val (.int (0 : Int32)), .val (.int (0 : Int32)), .val (.long p2), .second, .val (.int (p5 &&& (3 : Int32))), .val (.long z6), .second, .val (.long z6), .second, .val (.ref b7), .val (.ref b9), .unset, .unset] [(.int (8 : Int32)), (.int p5)]) _
      refine go1 (fun _ => XS.iushr X10.here hx rfl (hb hby at_143) rfl) ?_
      show Go p.tables e below T10 (mkF m 144 #[.val (.int p1), .val (.long p2), .second, .val (.int p3), .val (.long p4), .second, .val (.int p5), .val (.int (0 : Int32)), .val (.int (0 : Int32)), .val (.long p2), .second, .val (.int (p5 &&& (3 : Int32))), .val (.long z6), .second, .val (.long z6), .second, .val (.ref b7), .val (.ref b9), .unset, .unset] [(.int ((p5.toUInt32 >>> ((8 : Int32) &&& 31).toUInt32).toInt32))]) _
      refine go1 (fun _ => XS.iconst X10.here hx rfl (hb hby at_144)) ?_
      show Go p.tables e below T10 (mkF m 145 #[.val (.int p1), .val (.long p2), .second, .val (.int p3), .val (.long p4), .second, .val (.int p5), .val (.int (0 : Int32)), .val (.int (0 : Int32)), .val (.long p2), .second, .val (.int (p5 &&& (3 : Int32))), .val (.long z6), .second, .val (.long z6), .second, .val (.ref b7), .val (.ref b9), .unset, .unset] [(.int (3 : Int32)), (.int ((p5.toUInt32 >>> ((8 : Int32) &&& 31).toUInt32).toInt32))]) _
      refine go1 (fun _ => XS.iand X10.here hx rfl (hb hby at_145) rfl) ?_
      show Go p.tables e below T10 (mkF m 146 #[.val (.int p1), .val (.long p2), .second, .val (.int p3), .val (.long p4), .second, .val (.int p5), .val (.int (0 : Int32)), .val (.int (0 : Int32)), .val (.long p2), .second, .val (.int (p5 &&& (3 : Int32))), .val (.long z6), .second, .val (.long z6), .second, .val (.ref b7), .val (.ref b9), .unset, .unset] [(.int (((p5.toUInt32 >>> ((8 : Int32) &&& 31).toUInt32).toInt32) &&& (3 : Int32)))]) _
      refine go1 (fun _ => XS.istore X10.here hx rfl (hb hby at_146) rfl (l' := #[.val (.int p1), .val (.long p2), .second, .val (.int p3), .val (.long p4), .second, .val (.int p5), .val (.int (0 : Int32)), .val (.int (0 : Int32)), .val (.long p2), .second, .val (.int (p5 &&& (3 : Int32))), .val (.long z6), .second, .val (.long z6), .second, .val (.ref b7), .val (.ref b9), .val (.int (((p5.toUInt32 >>> ((8 : Int32) &&& 31).toUInt32).toInt32) &&& (3 : Int32))), .unset]) rfl) ?_
      show Go p.tables e below T10 (mkF m 148 #[.val (.int p1), .val (.long p2), .second, .val (.int p3), .val (.long p4), .second, .val (.int p5), .val (.int (0 : Int32)), .val (.int (0 : Int32)), .val (.long p2), .second, .val (.int (p5 &&& (3 : Int32))), .val (.long z6), .second, .val (.long z6), .second, .val (.ref b7), .val (.ref b9), .val (.int (((p5.toUInt32 >>> ((8 : Int32) &&& 31).toUInt32).toInt32) &&& (3 : Int32))), .unset] []) _
      refine go1 (fun _ => XS.iload X10.here hx rfl (hb hby at_148) rfl) ?_
      show Go p.tables e below T10 (mkF m 150 #[.val (.int p1), .val (.long p2), .second, .val (.int p3), .val (.long p4), .second, .val (.int p5), .val (.int (0 : Int32)), .val (.int (0 : Int32)), .val (.long p2), .second, .val (.int (p5 &&& (3 : Int32))), .val (.long z6), .second, .val (.long z6), .second, .val (.ref b7), .val (.ref b9), .val (.int (((p5.toUInt32 >>> ((8 : Int32) &&& 31).toUInt32).toInt32) &&& (3 : Int32))), .unset] [(.int (((p5.toUInt32 >>> ((8 : Int32) &&& 31).toUInt32).toInt32) &&& (3 : Int32)))]) _
      by_cases hc11 : (((p5.toUInt32 >>> ((8 : Int32) &&& 31).toUInt32).toInt32) &&& (3 : Int32)) = (0 : Int32)
      · skip
        refine go1 (fun _ => XS.ifNo X10.here hx rfl (hb hby at_150) rfl ((if0 _ _).trans (teq hc11).2)) ?_
        show Go p.tables e below T10 (mkF m 153 #[.val (.int p1), .val (.long p2), .second, .val (.int p3), .val (.long p4), .second, .val (.int p5), .val (.int (0 : Int32)), .val (.int (0 : Int32)), .val (.long p2), .second, .val (.int (p5 &&& (3 : Int32))), .val (.long z6), .second, .val (.long z6), .second, .val (.ref b7), .val (.ref b9), .val (.int (((p5.toUInt32 >>> ((8 : Int32) &&& 31).toUInt32).toInt32) &&& (3 : Int32))), .unset] []) _
        refine go1 (fun _ => XS.iload X10.here hx rfl (hb hby at_153) rfl) ?_
        show Go p.tables e below T10 (mkF m 155 #[.val (.int p1), .val (.long p2), .second, .val (.int p3), .val (.long p4), .second, .val (.int p5), .val (.int (0 : Int32)), .val (.int (0 : Int32)), .val (.long p2), .second, .val (.int (p5 &&& (3 : Int32))), .val (.long z6), .second, .val (.long z6), .second, .val (.ref b7), .val (.ref b9), .val (.int (((p5.toUInt32 >>> ((8 : Int32) &&& 31).toUInt32).toInt32) &&& (3 : Int32))), .unset] [(.int (0 : Int32))]) _
        refine go1 (fun _ => XS.iload X10.here hx rfl (hb hby at_155) rfl) ?_
        show Go p.tables e below T10 (mkF m 157 #[.val (.int p1), .val (.long p2), .second, .val (.int p3), .val (.long p4), .second, .val (.int p5), .val (.int (0 : Int32)), .val (.int (0 : Int32)), .val (.long p2), .second, .val (.int (p5 &&& (3 : Int32))), .val (.long z6), .second, .val (.long z6), .second, .val (.ref b7), .val (.ref b9), .val (.int (((p5.toUInt32 >>> ((8 : Int32) &&& 31).toUInt32).toInt32) &&& (3 : Int32))), .unset] [(.int (0 : Int32)), (.int (0 : Int32))]) _
        refine go1 (fun _ => XS.icmpNo X10.here hx rfl (hb hby at_157) rfl (teq (by decide : (0 : Int32) = (0 : Int32))).2) ?_
        show Go p.tables e below T10 (mkF m 160 #[.val (.int p1), .val (.long p2), .second, .val (.int p3), .val (.long p4), .second, .val (.int p5), .val (.int (0 : Int32)), .val (.int (0 : Int32)), .val (.long p2), .second, .val (.int (p5 &&& (3 : Int32))), .val (.long z6), .second, .val (.long z6), .second, .val (.ref b7), .val (.ref b9), .val (.int (((p5.toUInt32 >>> ((8 : Int32) &&& 31).toUInt32).toInt32) &&& (3 : Int32))), .unset] []) _
        refine go1 (fun _ => XS.lload X10.here hx rfl (hb hby at_160) rfl) ?_
        show Go p.tables e below T10 (mkF m 162 #[.val (.int p1), .val (.long p2), .second, .val (.int p3), .val (.long p4), .second, .val (.int p5), .val (.int (0 : Int32)), .val (.int (0 : Int32)), .val (.long p2), .second, .val (.int (p5 &&& (3 : Int32))), .val (.long z6), .second, .val (.long z6), .second, .val (.ref b7), .val (.ref b9), .val (.int (((p5.toUInt32 >>> ((8 : Int32) &&& 31).toUInt32).toInt32) &&& (3 : Int32))), .unset] [(.long p2)]) _
        refine go1 (fun _ => XS.lload X10.here hx rfl (hb hby at_162) rfl) ?_
        show Go p.tables e below T10 (mkF m 164 #[.val (.int p1), .val (.long p2), .second, .val (.int p3), .val (.long p4), .second, .val (.int p5), .val (.int (0 : Int32)), .val (.int (0 : Int32)), .val (.long p2), .second, .val (.int (p5 &&& (3 : Int32))), .val (.long z6), .second, .val (.long z6), .second, .val (.ref b7), .val (.ref b9), .val (.int (((p5.toUInt32 >>> ((8 : Int32) &&& 31).toUInt32).toInt32) &&& (3 : Int32))), .unset] [(.long z6), (.long p2)]) _
        refine go1 (fun _ => XS.lcmp X10.here hx rfl (hb hby at_164) rfl) ?_
        show Go p.tables e below T10 (mkF m 165 #[.val (.int p1), .val (.long p2), .second, .val (.int p3), .val (.long p4), .second, .val (.int p5), .val (.int (0 : Int32)), .val (.int (0 : Int32)), .val (.long p2), .second, .val (.int (p5 &&& (3 : Int32))), .val (.long z6), .second, .val (.long z6), .second, .val (.ref b7), .val (.ref b9), .val (.int (((p5.toUInt32 >>> ((8 : Int32) &&& 31).toUInt32).toInt32) &&& (3 : Int32))), .unset] [(.int (lcmpW p2 z6))]) _
        by_cases hc12 : p2 = z6
        · skip
          refine go1 (fun _ => XS.ifNo X10.here hx rfl (hb hby at_165) rfl ((if0 _ _).trans (teq ((lw_eq _ _).mpr hc12)).2)) ?_
          show Go p.tables e below T10 (mkF m 168 #[.val (.int p1), .val (.long p2), .second, .val (.int p3), .val (.long p4), .second, .val (.int p5), .val (.int (0 : Int32)), .val (.int (0 : Int32)), .val (.long p2), .second, .val (.int (p5 &&& (3 : Int32))), .val (.long z6), .second, .val (.long z6), .second, .val (.ref b7), .val (.ref b9), .val (.int (((p5.toUInt32 >>> ((8 : Int32) &&& 31).toUInt32).toInt32) &&& (3 : Int32))), .unset] []) _
          refine go1 (fun _ => XS.iconst X10.here hx rfl (hb hby at_168)) ?_
          show Go p.tables e below T10 (mkF m 169 #[.val (.int p1), .val (.long p2), .second, .val (.int p3), .val (.long p4), .second, .val (.int p5), .val (.int (0 : Int32)), .val (.int (0 : Int32)), .val (.long p2), .second, .val (.int (p5 &&& (3 : Int32))), .val (.long z6), .second, .val (.long z6), .second, .val (.ref b7), .val (.ref b9), .val (.int (((p5.toUInt32 >>> ((8 : Int32) &&& 31).toUInt32).toInt32) &&& (3 : Int32))), .unset] [(.int (1 : Int32))]) _
          refine go1 (fun _ => XS.goto X10.here hx rfl (pc0 := 169) (pc' := 173) rfl (hb hby at_169) (by decide) (by decide)) ?_
          show Go p.tables e below T10 (mkF m 173 #[.val (.int p1), .val (.long p2), .second, .val (.int p3), .val (.long p4), .second, .val (.int p5), .val (.int (0 : Int32)), .val (.int (0 : Int32)), .val (.long p2), .second, .val (.int (p5 &&& (3 : Int32))), .val (.long z6), .second, .val (.long z6), .second, .val (.ref b7), .val (.ref b9), .val (.int (((p5.toUInt32 >>> ((8 : Int32) &&& 31).toUInt32).toInt32) &&& (3 : Int32))), .unset] [(.int (1 : Int32))]) _
          refine go1 (fun _ => XS.istore X10.here hx rfl (hb hby at_173) rfl (l' := #[.val (.int p1), .val (.long p2), .second, .val (.int p3), .val (.long p4), .second, .val (.int p5), .val (.int (0 : Int32)), .val (.int (0 : Int32)), .val (.long p2), .second, .val (.int (p5 &&& (3 : Int32))), .val (.long z6), .second, .val (.long z6), .second, .val (.ref b7), .val (.ref b9), .val (.int (((p5.toUInt32 >>> ((8 : Int32) &&& 31).toUInt32).toInt32) &&& (3 : Int32))), .val (.int (1 : Int32))]) rfl) ?_
          show Go p.tables e below T10 (mkF m 175 #[.val (.int p1), .val (.long p2), .second, .val (.int p3), .val (.long p4), .second, .val (.int p5), .val (.int (0 : Int32)), .val (.int (0 : Int32)), .val (.long p2), .second, .val (.int (p5 &&& (3 : Int32))), .val (.long z6), .second, .val (.long z6), .second, .val (.ref b7), .val (.ref b9), .val (.int (((p5.toUInt32 >>> ((8 : Int32) &&& 31).toUInt32).toInt32) &&& (3 : Int32))), .val (.int (1 : Int32))] []) _
          refine go1 (fun _ => XS.aload X10.here hx rfl (hb hby at_175) rfl rfl) ?_
          show Go p.tables e below T10 (mkF m 177 #[.val (.int p1), .val (.long p2), .second, .val (.int p3), .val (.long p4), .second, .val (.int p5), .val (.int (0 : Int32)), .val (.int (0 : Int32)), .val (.long p2), .second, .val (.int (p5 &&& (3 : Int32))), .val (.long z6), .second, .val (.long z6), .second, .val (.ref b7), .val (.ref b9), .val (.int (((p5.toUInt32 >>> ((8 : Int32) &&& 31).toUInt32).toInt32) &&& (3 : Int32))), .val (.int (1 : Int32))] [(.ref b7)]) _
          refine go1 (fun _ => XS.aload X10.here hx rfl (hb hby at_177) rfl rfl) ?_
          show Go p.tables e below T10 (mkF m 179 #[.val (.int p1), .val (.long p2), .second, .val (.int p3), .val (.long p4), .second, .val (.int p5), .val (.int (0 : Int32)), .val (.int (0 : Int32)), .val (.long p2), .second, .val (.int (p5 &&& (3 : Int32))), .val (.long z6), .second, .val (.long z6), .second, .val (.ref b7), .val (.ref b9), .val (.int (((p5.toUInt32 >>> ((8 : Int32) &&& 31).toUInt32).toInt32) &&& (3 : Int32))), .val (.int (1 : Int32))] [(.ref b9), (.ref b7)]) _
          obtain ⟨cq13, kq13, q13a, q13b, q13c⟩ := isOf hZ rfl ((G8_0.ext E9).keep K10)
          obtain ⟨_, _, ⟨T13, L13, k13, n13⟩, -, X13, ⟨Lc13, hQ13, l13, y13, z13⟩, st13⟩ := X10.virtualBack hx (y := (⟨"com/example/stubwright/stubwright/idl/UnionType$Label", "equals", "(Ljava/lang/Object;)Z"⟩ : MethodName)) (z := (⟨"com/example/stubwright/stubwright/idl/UnionType$Label", "equals", "(Ljava/lang/Object;)Z"⟩ : MethodName)) hown (mvT hZ (hw _ (List.mem_of_getElem? (i := 18) rfl))) (mvT hZ (hw _ (List.mem_of_getElem? (i := 19) rfl))) (notFace_of_selects (args := #[]) (mvT hZ (hw _ (List.mem_of_getElem? (i := 21) rfl)))) (mvT hZ (hw _ (List.mem_of_getElem? (i := 21) rfl))) (mvT hZ (hw _ (List.mem_of_getElem? (i := 20) rfl))) (by decide) (backOf (W := 0) (rm4a l Z a0 hw [] b7 b9 (0 : Int32) p2 (0 : Int32) z6 T10.heap n0 (Nat.le_trans (Nat.le_trans (Nat.le_trans (Nat.le_trans Z0 E7.1) K8.1) E9.1) K10.1) G10_0 ((G8_1.ext E9).keep K10 (ninS (Nat.ne_of_lt (Nat.lt_of_lt_of_le G8_2.lt (Nat.le_of_eq g9.symm))) nin0)) ((G8_2.ext E9).keep K10 (ninS (Nat.ne_of_lt (Nat.lt_of_lt_of_le G8_2.lt (Nat.le_of_eq g9.symm))) nin0)) G10_1 G10_2) hZ (hw _ (List.mem_of_getElem? (i := 22) rfl)) (hw _ (List.mem_of_getElem? (i := 2) rfl)) (by decide) (by decide)) q13a q13c (g := (mkF m 179 #[.val (.int p1), .val (.long p2), .second, .val (.int p3), .val (.long p4), .second, .val (.int p5), .val (.int (0 : Int32)), .val (.int (0 : Int32)), .val (.long p2), .second, .val (.int (p5 &&& (3 : Int32))), .val (.long z6), .second, .val (.long z6), .second, .val (.ref b7), .val (.ref b9), .val (.int (((p5.toUInt32 >>> ((8 : Int32) &&& 31).toUInt32).toInt32) &&& (3 : Int32))), .val (.int (1 : Int32))] [(.ref b9), (.ref b7)])) rfl (by rw [hml]; rfl) (Steps.refl _) (argsL := [(.ref b9)]) (rest := []) (lenOf pd0_1 rfl) rfl (by show 2 * 0 + _ ≤ _; exact Nat.le_of_eq rfl) (hb hby at_179) (fun _ _ => ⟨rfl, rfl, (by decide : 2 + 0 ≤ _), (by decide : 4 + 0 ≤ _)⟩)
          dsimp only [Pt.U, Pt.locs, Pt.cells, Pt.slots] at X13 l13 y13 z13 st13 hQ13
          subst l13 y13 z13
          obtain ⟨rfl, N13q, e13⟩ := hQ13
          have N13 := Fr.app N10 N13q
          refine goT st13 ?_
          show Go p.tables e below T13 (mkF m 182 #[.val (.int p1), .val (.long p2), .second, .val (.int p3), .val (.long p4), .second, .val (.int p5), .val (.int (0 : Int32)), .val (.int (0 : Int32)), .val (.long p2), .second, .val (.int (p5 &&& (3 : Int32))), .val (.long z6), .second, .val (.long z6), .second, .val (.ref b7), .val (.ref b9), .val (.int (((p5.toUInt32 >>> ((8 : Int32) &&& 31).toUInt32).toInt32) &&& (3 : Int32))), .val (.int (1 : Int32))] [(.int (own_4a (0 : Int32) p2 (0 : Int32) z6))]) _
          refine go1 (fun _ => XS.iload X13.here hx rfl (hb hby at_182) rfl) ?_
          show Go p.tables e below T13 (mkF m 184 #[.val (.int p1), .val (.long p2), .second, .val (.int p3), .val (.long p4), .second, .val (.int p5), .val (.int (0 : Int32)), .val (.int (0 : Int32)), .val (.long p2), .second, .val (.int (p5 &&& (3 : Int32))), .val (.long z6), .second, .val (.long z6), .second, .val (.ref b7), .val (.ref b9), .val (.int (((p5.toUInt32 >>> ((8 : Int32) &&& 31).toUInt32).toInt32) &&& (3 : Int32))), .val (.int (1 : Int32))] [(.int (1 : Int32)), (.int (own_4a (0 : Int32) p2 (0 : Int32) z6))]) _
          refine go1 (fun _ => XS.icmpNo X13.here hx rfl (hb hby at_184) rfl (teq (show (own_4a (0 : Int32) p2 (0 : Int32) z6) = (1 : Int32) from by first | decide | (simp [own_4a, hc11, hc12]; done) | (simp [own_4a, eq_comm, hc11, hc12]; done))).2) ?_
          show Go p.tables e below T13 (mkF m 187 #[.val (.int p1), .val (.long p2), .second, .val (.int p3), .val (.long p4), .second, .val (.int p5), .val (.int (0 : Int32)), .val (.int (0 : Int32)), .val (.long p2), .second, .val (.int (p5 &&& (3 : Int32))), .val (.long z6), .second, .val (.long z6), .second, .val (.ref b7), .val (.ref b9), .val (.int (((p5.toUInt32 >>> ((8 : Int32) &&& 31).toUInt32).toInt32) &&& (3 : Int32))), .val (.int (1 : Int32))] []) _
          refine go1 (fun _ => XS.aload X13.here hx rfl (hb hby at_187) rfl rfl) ?_
          show Go p.tables e below T13 (mkF m 189 #[.val (.int p1), .val (.long p2), .second, .val (.int p3), .val (.long p4), .second, .val (.int p5), .val (.int (0 : Int32)), .val (.int (0 : Int32)), .val (.long p2), .second, .val (.int (p5 &&& (3 : Int32))), .val (.long z6), .second, .val (.long z6), .second, .val (.ref b7), .val (.ref b9), .val (.int (((p5.toUInt32 >>> ((8 : Int32) &&& 31).toUInt32).toInt32) &&& (3 : Int32))), .val (.int (1 : Int32))] [(.ref b9)]) _
          refine go1 (fun _ => XS.aload X13.here hx rfl (hb hby at_189) rfl rfl) ?_
          show Go p.tables e below T13 (mkF m 191 #[.val (.int p1), .val (.long p2), .second, .val (.int p3), .val (.long p4), .second, .val (.int p5), .val (.int (0 : Int32)), .val (.int (0 : Int32)), .val (.long p2), .second, .val (.int (p5 &&& (3 : Int32))), .val (.long z6), .second, .val (.long z6), .second, .val (.ref b7), .val (.ref b9), .val (.int (((p5.toUInt32 >>> ((8 : Int32) &&& 31).toUInt32).toInt32) &&& (3 : Int32))), .val (.int (1 : Int32))] [(.ref b7), (.ref b9)]) _
          obtain ⟨cq14, kq14, q14a, q14b, q14c⟩ := isOf hZ e13 G10_0
          obtain ⟨_, _, ⟨T14, L14, k14, n14⟩, -, X14, ⟨Lc14, hQ14, l14, y14, z14⟩, st14⟩ := X13.virtualBack hx (y := (⟨"com/example/stubwright/stubwright/idl/UnionType$Label", "equals", "(Ljava/lang/Object;)Z"⟩ : MethodName)) (z := (⟨"com/example/stubwright/stubwright/idl/UnionType$Label", "equals", "(Ljava/lang/Object;)Z"⟩ : MethodName)) hown (mvT hZ (hw _ (List.mem_of_getElem? (i := 18) rfl))) (mvT hZ (hw _ (List.mem_of_getElem? (i := 19) rfl))) (notFace_of_selects (args := #[]) (mvT hZ (hw _ (List.mem_of_getElem? (i := 21) rfl)))) (mvT hZ (hw _ (List.mem_of_getElem? (i := 21) rfl))) (mvT hZ (hw _ (List.mem_of_getElem? (i := 20) rfl))) (by decide) (backOf (W := 0) (rm4a l Z a0 hw [] b9 b7 (0 : Int32) z6 (0 : Int32) p2 T10.heap n0 (Nat.le_trans (Nat.le_trans (Nat.le_trans (Nat.le_trans Z0 E7.1) K8.1) E9.1) K10.1) ((G8_0.ext E9).keep K10) G10_1 G10_2 ((G8_1.ext E9).keep K10 (ninS (Nat.ne_of_lt (Nat.lt_of_lt_of_le G8_2.lt (Nat.le_of_eq g9.symm))) nin0)) ((G8_2.ext E9).keep K10 (ninS (Nat.ne_of_lt (Nat.lt_of_lt_of_le G8_2.lt (Nat.le_of_eq g9.symm))) nin0))) hZ (hw _ (List.mem_of_getElem? (i := 22) rfl)) (hw _ (List.mem_of_getElem? (i := 2) rfl)) (by decide) (by decide)) q14a q14c (g := (mkF m 191 #[.val (.int p1), .val (.long p2), .second, .val (.int p3), .val (.long p4), .second, .val (.int p5), .val (.int (0 : Int32)), .val (.int (0 : Int32)), .val (.long p2), .second, .val (.int (p5 &&& (3 : Int32))), .val (.long z6), .second, .val (.long z6), .second, .val (.ref b7), .val (.ref b9), .val (.int (((p5.toUInt32 >>> ((8 : Int32) &&& 31).toUInt32).toInt32) &&& (3 : Int32))), .val (.int (1 : Int32))] [(.ref b7), (.ref b9)])) rfl (by rw [hml]; rfl) (Steps.refl _) (argsL := [(.ref b7)]) (rest := []) (lenOf pd0_1 rfl) rfl (by show 2 * 0 + _ ≤ _; exact Nat.le_of_eq rfl) (hb hby at_191) (fun _ _ => ⟨rfl, e13, (by decide : 2 + 0 ≤ _), (by decide : 4 + 0 ≤ _)⟩)
          dsimp only [Pt.U, Pt.locs, Pt.cells, Pt.slots] at X14 l14 y14 z14 st14 hQ14
          subst l14 y14 z14
          obtain ⟨rfl, N14q, e14⟩ := hQ14
          have N14 := Fr.app N13 N14q
          refine goT st14 ?_
          show Go p.tables e below T14 (mkF m 194 #[.val (.int p1), .val (.long p2), .second, .val (.int p3), .val (.long p4), .second, .val (.int p5), .val (.int (0 : Int32)), .val (.int (0 : Int32)), .val (.long p2), .second, .val (.int (p5 &&& (3 : Int32))), .val (.long z6), .second, .val (.long z6), .second, .val (.ref b7), .val (.ref b9), .val (.int (((p5.toUInt32 >>> ((8 : Int32) &&& 31).toUInt32).toInt32) &&& (3 : Int32))), .val (.int (1 : Int32))] [(.int (own_4a (0 : Int32) z6 (0 : Int32) p2))]) _
          refine go1 (fun _ => XS.iload X14.here hx rfl (hb hby at_194) rfl) ?_
          show Go p.tables e below T14 (mkF m 196 #[.val (.int p1), .val (.long p2), .second, .val (.int p3), .val (.long p4), .second, .val (.int p5), .val (.int (0 : Int32)), .val (.int (0 : Int32)), .val (.long p2), .second, .val (.int (p5 &&& (3 : Int32))), .val (.long z6), .second, .val (.long z6), .second, .val (.ref b7), .val (.ref b9), .val (.int (((p5.toUInt32 >>> ((8 : Int32) &&& 31).toUInt32).toInt32) &&& (3 : Int32))), .val (.int (1 : Int32))] [(.int (1 : Int32)), (.int (own_4a (0 : Int32) z6 (0 : Int32) p2))]) _
          refine go1 (fun _ => XS.icmpNo X14.here hx rfl (hb hby at_196) rfl (teq (show (own_4a (0 : Int32) z6 (0 : Int32) p2) = (1 : Int32) from by first | decide | (simp [own_4a, hc11, hc12]; done) | (simp [own_4a, eq_comm, hc11, hc12]; done))).2) ?_
          show Go p.tables e below T14 (mkF m 199 #[.val (.int p1), .val (.long p2), .second, .val (.int p3), .val (.long p4), .second, .val (.int p5), .val (.int (0 : Int32)), .val (.int (0 : Int32)), .val (.long p2), .second, .val (.int (p5 &&& (3 : Int32))), .val (.long z6), .second, .val (.long z6), .second, .val (.ref b7), .val (.ref b9), .val (.int (((p5.toUInt32 >>> ((8 : Int32) &&& 31).toUInt32).toInt32) &&& (3 : Int32))), .val (.int (1 : Int32))] []) _
          refine go1 (fun _ => XS.iconst X14.here hx rfl (hb hby at_199)) ?_
          show Go p.tables e below T14 (mkF m 200 #[.val (.int p1), .val (.long p2), .second, .val (.int p3), .val (.long p4), .second, .val (.int p5), .val (.int (0 : Int32)), .val (.int (0 : Int32)), .val (.long p2), .second, .val (.int (p5 &&& (3 : Int32))), .val (.long z6), .second, .val (.long z6), .second, .val (.ref b7), .val (.ref b9), .val (.int (((p5.toUInt32 >>> ((8 : Int32) &&& 31).toUInt32).toInt32) &&& (3 : Int32))), .val (.int (1 : Int32))] [(.int (1 : Int32))]) _
          refine go1 (fun _ => XS.goto X14.here hx rfl (pc0 := 200) (pc' := 204) rfl (hb hby at_200) (by decide) (by decide)) ?_
          show Go p.tables e below T14 (mkF m 204 #[.val (.int p1), .val (.long p2), .second, .val (.int p3), .val (.long p4), .second, .val (.int p5), .val (.int (0 : Int32)), .val (.int (0 : Int32)), .val (.long p2), .second, .val (.int (p5 &&& (3 : Int32))), .val (.long z6), .second, .val (.long z6), .second, .val (.ref b7), .val (.ref b9), .val (.int (((p5.toUInt32 >>> ((8 : Int32) &&& 31).toUInt32).toInt32) &&& (3 : Int32))), .val (.int (1 : Int32))] [(.int (1 : Int32))]) _
          refine goR X14 (BodyLoose.notSynchronized Bd) (v := (some (.int (1 : Int32)))) (fun h => by rw [Bd.returns] at h; cases h) (Q0 Z p1 p2 p3 p4 p5 a_cache h0 n0) (fun fs hr => retN X14 hx (t := .boolean) Bd.returns (by simp) (hb hby at_204) hr) (by decide) (by decide) ?_
          show Q0 Z p1 p2 p3 p4 p5 a_cache h0 n0 _ T14.heap _
          rw [e14]
          exact ⟨rfl, N14⟩
        · skip
          refine go1 (fun _ => XS.ifYes X10.here hx rfl (pc0 := 165) (pc' := 172) rfl (hb hby at_165) rfl ((if0 _ _).trans (feq (mt (lw_eq _ _).mp hc12)).2) (by decide) (by decide)) ?_
          show Go p.tables e below T10 (mkF m 172 #[.val (.int p1), .val (.long p2), .second, .val (.int p3), .val (.long p4), .second, .val (.int p5), .val (.int (0 : Int32)), .val (.int (0 : Int32)), .val (.long p2), .second, .val (.int (p5 &&& (3 : Int32))), .val (.long z6), .second, .val (.long z6), .second, .val (.ref b7), .val (.ref b9), .val (.int (((p5.toUInt32 >>> ((8 : Int32) &&& 31).toUInt32).toInt32) &&& (3 : Int32))), .unset] []) _
          refine go1 (fun _ => XS.iconst X10.here hx rfl (hb hby at_172)) ?_
          show Go p.tables e below T10 (mkF m 173 #[.val (.int p1), .val (.long p2), .second, .val (.int p3), .val (.long p4), .second, .val (.int p5), .val (.int (0 : Int32)), .val (.int (0 : Int32)), .val (.long p2), .second, .val (.int (p5 &&& (3 : Int32))), .val (.long z6), .second, .val (.long z6), .second, .val (.ref b7), .val (.ref b9), .val (.int (((p5.toUInt32 >>> ((8 : Int32) &&& 31).toUInt32).toInt32) &&& (3 : Int32))), .unset] [(.int (0 : Int32))]) _
          refine go1 (fun _ => XS.istore X10.here hx rfl (hb hby at_173) rfl (l' := #[.val (.int p1), .val (.long p2), .second, .val (.int p3), .val (.long p4), .second, .val (.int p5), .val (.int (0 : Int32)), .val (.int (0 : Int32)), .val (.long p2), .second, .val (.int (p5 &&& (3 : Int32))), .val (.long z6), .second, .val (.long z6), .second, .val (.ref b7), .val (.ref b9), .val (.int (((p5.toUInt32 >>> ((8 : Int32) &&& 31).toUInt32).toInt32) &&& (3 : Int32))), .val (.int (0 : Int32))]) rfl) ?_
          show Go p.tables e below T10 (mkF m 175 #[.val (.int p1), .val (.long p2), .second, .val (.int p3), .val (.long p4), .second, .val (.int p5), .val (.int (0 : Int32)), .val (.int (0 : Int32)), .val (.long p2), .second, .val (.int (p5 &&& (3 : Int32))), .val (.long z6), .second, .val (.long z6), .second, .val (.ref b7), .val (.ref b9), .val (.int (((p5.toUInt32 >>> ((8 : Int32) &&& 31).toUInt32).toInt32) &&& (3 : Int32))), .val (.int (0 : Int32))] []) _
          refine go1 (fun _ => XS.aload X10.here hx rfl (hb hby at_175) rfl rfl) ?_
          show Go p.tables e below T10 (mkF m 177 #[.val (.int p1), .val (.long p2), .second, .val (.int p3), .val (.long p4), .second, .val (.int p5), .val (.int (0 : Int32)), .val (.int (0 : Int32)), .val (.long p2), .second, .val (.int (p5 &&& (3 : Int32))), .val (.long z6), .second, .val (.long z6), .second, .val (.ref b7), .val (.ref b9), .val (.int (((p5.toUInt32 >>> ((8 : Int32) &&& 31).toUInt32).toInt32) &&& (3 : Int32))), .val (.int (0 : Int32))] [(.ref b7)]) _
          refine go1 (fun _ => XS.aload X10.here hx rfl (hb hby at_177) rfl rfl) ?_
          show Go p.tables e below T10 (mkF m 179 #[.val (.int p1), .val (.long p2), .second, .val (.int p3), .val (.long p4), .second, .val (.int p5), .val (.int (0 : Int32)), .val (.int (0 : Int32)), .val (.long p2), .second, .val (.int (p5 &&& (3 : Int32))), .val (.long z6), .second, .val (.long z6), .second, .val (.ref b7), .val (.ref b9), .val (.int (((p5.toUInt32 >>> ((8 : Int32) &&& 31).toUInt32).toInt32) &&& (3 : Int32))), .val (.int (0 : Int32))] [(.ref b9), (.ref b7)]) _
          obtain ⟨cq15, kq15, q15a, q15b, q15c⟩ := isOf hZ rfl ((G8_0.ext E9).keep K10)
          obtain ⟨_, _, ⟨T15, L15, k15, n15⟩, -, X15, ⟨Lc15, hQ15, l15, y15, z15⟩, st15⟩ := X10.virtualBack hx (y := (⟨"com/example/stubwright/stubwright/idl/UnionType$Label", "equals", "(Ljava/lang/Object;)Z"⟩ : MethodName)) (z := (⟨"com/example/stubwright/stubwright/idl/UnionType$Label", "equals", "(Ljava/lang/Object;)Z"⟩ : MethodName)) hown (mvT hZ (hw _ (List.mem_of_getElem? (i := 18) rfl))) (mvT hZ (hw _ (List.mem_of_getElem? (i := 19) rfl))) (notFace_of_selects (args := #[]) (mvT hZ (hw _ (List.mem_of_getElem? (i := 21) rfl)))) (mvT hZ (hw _ (List.mem_of_getElem? (i := 21) rfl))) (mvT hZ (hw _ (List.mem_of_getElem? (i := 20) rfl))) (by decide) (backOf (W := 0) (rm4a l Z a0 hw [] b7 b9 (0 : Int32) p2 (0 : Int32) z6 T10.heap n0 (Nat.le_trans (Nat.le_trans (Nat.le_trans (Nat.le_trans Z0 E7.1) K8.1) E9.1) K10.1) G10_0 ((G8_1.ext E9).keep K10 (ninS (Nat.ne_of_lt (Nat.lt_of_lt_of_le G8_2.lt (Nat.le_of_eq g9.symm))) nin0)) ((G8_2.ext E9).keep K10 (ninS (Nat.ne_of_lt (Nat.lt_of_lt_of_le G8_2.lt (Nat.le_of_eq g9.symm))) nin0)) G10_1 G10_2) hZ (hw _ (List.mem_of_getElem? (i := 22) rfl)) (hw _ (List.mem_of_getElem? (i := 2) rfl)) (by decide) (by decide)) q15a q15c (g := (mkF m 179 #[.val (.int p1), .val (.long p2), .second, .val (.int p3), .val (.long p4), .second, .val (.int p5), .val (.int (0 : Int32)), .val (.int (0 : Int32)), .val (.long p2), .second, .val (.int (p5 &&& (3 : Int32))), .val (.long z6), .second, .val (.long z6), .second, .val (.ref b7), .val (.ref b9), .val (.int (((p5.toUInt32 >>> ((8 : Int32) &&& 31).toUInt32).toInt32) &&& (3 : Int32))), .val (.int (0 : Int32))] [(.ref b9), (.ref b7)])) rfl (by rw [hml]; rfl) (Steps.refl _) (argsL := [(.ref b9)]) (rest := []) (lenOf pd0_1 rfl) rfl (by show 2 * 0 + _ ≤ _; exact Nat.le_of_eq rfl) (hb hby at_179) (fun _ _ => ⟨rfl, rfl, (by decide : 2 + 0 ≤ _), (by decide : 4 + 0 ≤ _)⟩)
          dsimp only [Pt.U, Pt.locs, Pt.cells, Pt.slots] at X15 l15 y15 z15 st15 hQ15
          subst l15 y15 z15
          obtain ⟨rfl, N15q, e15⟩ := hQ15
          have N15 := Fr.app N10 N15q
          refine goT st15 ?_
          show Go p.tables e below T15 (mkF m 182 #[.val (.int p1), .val (.long p2), .second, .val (.int p3), .val (.long p4), .second, .val (.int p5), .val (.int (0 : Int32)), .val (.int (0 : Int32)), .val (.long p2), .second, .val (.int (p5 &&& (3 : Int32))), .val (.long z6), .second, .val (.long z6), .second, .val (.ref b7), .val (.ref b9), .val (.int (((p5.toUInt32 >>> ((8 : Int32) &&& 31).toUInt32).toInt32) &&& (3 : Int32))), .val (.int (0 : Int32))] [(.int (own_4a (0 : Int32) p2 (0 : Int32) z6))]) _
          refine go1 (fun _ => XS.iload X15.here hx rfl (hb hby at_182) rfl) ?_
          show Go p.tables e below T15 (mkF m 184 #[.val (.int p1), .val (.long p2), .second, .val (.int p3), .val (.long p4), .second, .val (.int p5), .val (.int (0 : Int32)), .val (.int (0 : Int32)), .val (.long p2), .second, .val (.int (p5 &&& (3 : Int32))), .val (.long z6), .second, .val (.long z6), .second, .val (.ref b7), .val (.ref b9), .val (.int (((p5.toUInt32 >>> ((8 : Int32) &&& 31).toUInt32).toInt32) &&& (3 : Int32))), .val (.int (0 : Int32))] [(.int (0 : Int32)), (.int (own_4a (0 : Int32) p2 (0 : Int32) z6))]) _
          refine go1 (fun _ => XS.icmpNo X15.here hx rfl (hb hby at_184) rfl (teq (show (own_4a (0 : Int32) p2 (0 : Int32) z6) = (0 : Int32) from by first | decide | (simp [own_4a, hc11, hc12]; done) | (simp [own_4a, eq_comm, hc11, hc12]; done))).2) ?_
          show Go p.tables e below T15 (mkF m 187 #[.val (.int p1), .val (.long p2), .second, .val (.int p3), .val (.long p4), .second, .val (.int p5), .val (.int (0 : Int32)), .val (.int (0 : Int32)), .val (.long p2), .second, .val (.int (p5 &&& (3 : Int32))), .val (.long z6), .second, .val (.long z6), .second, .val (.ref b7), .val (.ref b9), .val (.int (((p5.toUInt32 >>> ((8 : Int32) &&& 31).toUInt32).toInt32) &&& (3 : Int32))), .val (.int (0 : Int32))] []) _
          refine go1 (fun _ => XS.aload X15.here hx rfl (hb hby at_187) rfl rfl) ?_
          show Go p.tables e below T15 (mkF m 189 #[.val (.int p1), .val (.long p2), .second, .val (.int p3), .val (.long p4), .second, .val (.int p5), .val (.int (0 : Int32)), .val (.int (0 : Int32)), .val (.long p2), .second, .val (.int (p5 &&& (3 : Int32))), .val (.long z6), .second, .val (.long z6), .second, .val (.ref b7), .val (.ref b9), .val (.int (((p5.toUInt32 >>> ((8 : Int32) &&& 31).toUInt32).toInt32) &&& (3 : Int32))), .val (.int (0 : Int32))] [(.ref b9)]) _
          refine go1 (fun _ => XS.aload X15.here hx rfl (hb hby at_189) rfl rfl) ?_
          show Go p.tables e below T15 (mkF m 191 #[.val (.int p1), .val (.long p2), .second, .val (.int p3), .val (.long p4), .second, .val (.int p5), .val (.int (0 : Int32)), .val (.int (0 : Int32)), .val (.long p2), .second, .val (.int (p5 &&& (3 : Int32))), .val (.long z6), .second, .val (.long z6), .second, .val (.ref b7), .val (.ref b9), .val (.int (((p5.toUInt32 >>> ((8 : Int32) &&& 31).toUInt32).toInt32) &&& (3 : Int32))), .val (.int (0 : Int32))] [(.ref b7), (.ref b9)]) _
          obtain ⟨cq16, kq16, q16a, q16b, q16c⟩ := isOf hZ e15 G10_0
          obtain ⟨_, _, ⟨T16, L16, k16, n16⟩, -, X16, ⟨Lc16, hQ16, l16, y16, z16⟩, st16⟩ := X15.virtualBack hx (y := (⟨"com/example/stubwright/stubwright/idl/UnionType$Label", "equals", "(Ljava/lang/Object;)Z"⟩ : MethodName)) (z := (⟨"com/example/stubwright/stubwright/idl/UnionType$Label", "equals", "(Ljava/lang/Object;)Z"⟩ : MethodName)) hown (mvT hZ (hw _ (List.mem_of_getElem? (i := 18) rfl))) (mvT hZ (hw _ (List.mem_of_getElem? (i := 19) rfl))) (notFace_of_selects (args := #[]) (mvT hZ (hw _ (List.mem_of_getElem? (i := 21) rfl)))) (mvT hZ (hw _ (List.mem_of_getElem? (i := 21) rfl))) (mvT hZ (hw _ (List.mem_of_getElem? (i := 20) rfl))) (by decide) (backOf (W := 0) (rm4a l Z a0 hw [] b9 b7 (0 : Int32) z6 (0 : Int32) p2 T10.heap n0 (Nat.le_trans (Nat.le_trans (Nat.le_trans (Nat.le_trans Z0 E7.1) K8.1) E9.1) K10.1) ((G8_0.ext E9).keep K10) G10_1 G10_2 ((G8_1.ext E9).keep K10 (ninS (Nat.ne_of_lt (Nat.lt_of_lt_of_le G8_2.lt (Nat.le_of_eq g9.symm))) nin0)) ((G8_2.ext E9).keep K10 (ninS (Nat.ne_of_lt (Nat.lt_of_lt_of_le G8_2.lt (Nat.le_of_eq g9.symm))) nin0))) hZ (hw _ (List.mem_of_getElem? (i := 22) rfl)) (hw _ (List.mem_of_getElem? (i := 2) rfl)) (by decide) (by decide)) q16a q16c (g := (mkF m 191 #[.val (.int p1), .val (.long p2), .second, .val (.int p3), .val (.long p4), .second, .val (.int p5), .val (.int (0 : Int32)), .val (.int (0 : Int32)), .val (.long p2), .second, .val (.int (p5 &&& (3 : Int32))), .val (.long z6), .second, .val (.long z6), .second, .val (.ref b7), .val (.ref b9), .val (.int (((p5.toUInt32 >>> ((8 : Int32) &&& 31).toUInt32).toInt32) &&& (3 : Int32))), .val (.int (0 : Int32))] [(.ref b7), (.ref b9)])) rfl (by rw [hml]; rfl) (Steps.refl _) (argsL := [(.ref b7)]) (rest := []) (lenOf pd0_1 rfl) rfl (by show 2 * 0 + _ ≤ _; exact Nat.le_of_eq rfl) (hb hby at_191) (fun _ _ => ⟨rfl, e15, (by decide : 2 + 0 ≤ _), (by decide : 4 + 0 ≤ _)⟩)
          dsimp only [Pt.U, Pt.locs, Pt.cells, Pt.slots] at X16 l16 y16 z16 st16 hQ16
          subst l16 y16 z16
          obtain ⟨rfl, N16q, e16⟩ := hQ16
          have N16 := Fr.app N15 N16q
          refine goT st16 ?_
          show Go p.tables e below T16 (mkF m 194 #[.val (.int p1), .val (.long p2), .second, .val (.int p3), .val (.long p4), .second, .val (.int p5), .val (.int (0 : Int32)), .val (.int (0 : Int32)), .val (.long p2), .second, .val (.int (p5 &&& (3 : Int32))), .val (.long z6), .second, .val (.long z6), .second, .val (.ref b7), .val (.ref b9), .val (.int (((p5.toUInt32 >>> ((8 : Int32) &&& 31).toUInt32).toInt32) &&& (3 : Int32))), .val (.int (0 : Int32))] [(.int (own_4a (0 : Int32) z6 (0 : Int32) p2))]) _
          refine go1 (fun _ => XS.iload X16.here hx rfl (hb hby at_194) rfl) ?_
          show Go p.tables e below T16 (mkF m 196 #[.val (.int p1), .val (.long p2), .second, .val (.int p3), .val (.long p4), .second, .val (.int p5), .val (.int (0 : Int32)), .val (.int (0 : Int32)), .val (.long p2), .second, .val (.int (p5 &&& (3 : Int32))), .val (.long z6), .second, .val (.long z6), .second, .val (.ref b7), .val (.ref b9), .val (.int (((p5.toUInt32 >>> ((8 : Int32) &&& 31).toUInt32).toInt32) &&& (3 : Int32))), .val (.int (0 : Int32))] [(.int (0 : Int32)), (.int (own_4a (0 : Int32) z6 (0 : Int32) p2))]) _
          refine go1 (fun _ => XS.icmpNo X16.here hx rfl (hb hby at_196) rfl (teq (show (own_4a (0 : Int32) z6 (0 : Int32) p2) = (0 : Int32) from by first | decide | (simp [own_4a, hc11, hc12]; done) | (simp [own_4a, eq_comm, hc11, hc12]; done))).2) ?_
          show Go p.tables e below T16 (mkF m 199 #[.val (.int p1), .val (.long p2), .second, .val (.int p3), .val (.long p4), .second, .val (.int p5), .val (.int (0 : Int32)), .val (.int (0 : Int32)), .val (.long p2), .second, .val (.int (p5 &&& (3 : Int32))), .val (.long z6), .second, .val (.long z6), .second, .val (.ref b7), .val (.ref b9), .val (.int (((p5.toUInt32 >>> ((8 : Int32) &&& 31).toUInt32).toInt32) &&& (3 : Int32))), .val (.int (0 : Int32))] []) _
          refine go1 (fun _ => XS.iconst X16.here hx rfl (hb hby at_199)) ?_
          show Go p.tables e below T16 (mkF m 200 #[.val (.int p1), .val (.long p2), .second, .val (.int p3), .val (.long p4), .second, .val (.int p5), .val (.int (0 : Int32)), .val (.int (0 : Int32)), .val (.long p2), .second, .val (.int (p5 &&& (3 : Int32))), .val (.long z6), .second, .val (.long z6), .second, .val (.ref b7), .val (.ref b9), .val (.int (((p5.toUInt32 >>> ((8 : Int32) &&& 31).toUInt32).toInt32) &&& (3 : Int32))), .val (.int (0 : Int32))] [(.int (1 : Int32))]) _
          refine go1 (fun _ => XS.goto X16.here hx rfl (pc0 := 200) (pc' := 204) rfl (hb hby at_200) (by decide) (by decide)) ?_
          show Go p.tables e below T16 (mkF m 204 #[.val (.int p1), .val (.long p2), .second, .val (.int p3), .val (.long p4), .second, .val (.int p5), .val (.int (0 : Int32)), .val (.int (0 : Int32)), .val (.long p2), .second, .val (.int (p5 &&& (3 : Int32))), .val (.long z6), .second, .val (.long z6), .second, .val (.ref b7), .val (.ref b9), .val (.int (((p5.toUInt32 >>> ((8 : Int32) &&& 31).toUInt32).toInt32) &&& (3 : Int32))), .val (.int (0 : Int32))] [(.int (1 : Int32))]) _
          refine goR X16 (BodyLoose.notSynchronized Bd) (v := (some (.int (1 : Int32)))) (fun h => by rw [Bd.returns] at h; cases h) (Q0 Z p1 p2 p3 p4 p5 a_cache h0 n0) (fun fs hr => retN X16 hx (t := .boolean) Bd.returns (by simp) (hb hby at_204) hr) (by decide) (by decide) ?_
          show Q0 Z p1 p2 p3 p4 p5 a_cache h0 n0 _ T16.heap _
          rw [e16]
          exact ⟨rfl, N16⟩
      · skip
        refine go1 (fun _ => XS.ifYes X10.here hx rfl (pc0 := 150) (pc' := 205) rfl (hb hby at_150) rfl ((if0 _ _).trans (feq hc11).2) (by decide) (by decide)) ?_
        show Go p.tables e below T10 (mkF m 205 #[.val (.int p1), .val (.long p2), .second, .val (.int p3), .val (.long p4), .second, .val (.int p5), .val (.int (0 : Int32)), .val (.int (0 : Int32)), .val (.long p2), .second, .val (.int (p5 &&& (3 : Int32))), .val (.long z6), .second, .val (.long z6), .second, .val (.ref b7), .val (.ref b9), .val (.int (((p5.toUInt32 >>> ((8 : Int32) &&& 31).toUInt32).toInt32) &&& (3 : Int32))), .unset] []) _
        refine go1 (fun _ => XS.iload X10.here hx rfl (hb hby at_205) rfl) ?_
        show Go p.tables e below T10 (mkF m 207 #[.val (.int p1), .val (.long p2), .second, .val (.int p3), .val (.long p4), .second, .val (.int p5), .val (.int (0 : Int32)), .val (.int (0 : Int32)), .val (.long p2), .second, .val (.int (p5 &&& (3 : Int32))), .val (.long z6), .second, .val (.long z6), .second, .val (.ref b7), .val (.ref b9), .val (.int (((p5.toUInt32 >>> ((8 : Int32) &&& 31).toUInt32).toInt32) &&& (3 : Int32))), .unset] [(.int (((p5.toUInt32 >>> ((8 : Int32) &&& 31).toUInt32).toInt32) &&& (3 : Int32)))]) _
        refine go1 (fun _ => XS.iconst X10.here hx rfl (hb hby at_207)) ?_
        show Go p.tables e below T10 (mkF m 208 #[.val (.int p1), .val (.long p2), .second, .val (.int p3), .val (.long p4), .second, .val (.int p5), .val (.int (0 : Int32)), .val (.int (0 : Int32)), .val (.long p2), .second, .val (.int (p5 &&& (3 : Int32))), .val (.long z6), .second, .val (.long z6), .second, .val (.ref b7), .val (.ref b9), .val (.int (((p5.toUInt32 >>> ((8 : Int32) &&& 31).toUInt32).toInt32) &&& (3 : Int32))), .unset] [(.int (1 : Int32)), (.int (((p5.toUInt32 >>> ((8 : Int32) &&& 31).toUInt32).toInt32) &&& (3 : Int32)))]) _
        by_cases hc17 : (((p5.toUInt32 >>> ((8 : Int32) &&& 31).toUInt32).toInt32) &&& (3 : Int32)) = (1 : Int32)
        · skip
          refine go1 (fun _ => XS.icmpNo X10.here hx rfl (hb hby at_208) rfl (teq hc17).2) ?_
          show Go p.tables e below T10 (mkF m 211 #[.val (.int p1), .val (.long p2), .second, .val (.int p3), .val (.long p4), .second, .val (.int p5), .val (.int (0 : Int32)), .val (.int (0 : Int32)), .val (.long p2), .second, .val (.int (p5 &&& (3 : Int32))), .val (.long z6), .second, .val (.long z6), .second, .val (.ref b7), .val (.ref b9), .val (.int (((p5.toUInt32 >>> ((8 : Int32) &&& 31).toUInt32).toInt32) &&& (3 : Int32))), .unset] []) _
          refine go1 (fun _ => XS.aconstNull X10.here hx rfl (hb hby at_211)) ?_
          show Go p.tables e below T10 (mkF m 212 #[.val (.int p1), .val (.long p2), .second, .val (.int p3), .val (.long p4), .second, .val (.int p5), .val (.int (0 : Int32)), .val (.int (0 : Int32)), .val (.long p2), .second, .val (.int (p5 &&& (3 : Int32))), .val (.long z6), .second, .val (.long z6), .second, .val (.ref b7), .val (.ref b9), .val (.int (((p5.toUInt32 >>> ((8 : Int32) &&& 31).toUInt32).toInt32) &&& (3 : Int32))), .unset] [.null]) _
          refine go1 (fun _ => XS.astore X10.here hx rfl (hb hby at_212) rfl rfl (l' := #[.val (.int p1), .val (.long p2), .second, .val (.int p3), .val (.long p4), .second, .val (.int p5), .val (.int (0 : Int32)), .val (.int (0 : Int32)), .val (.long p2), .second, .val (.int (p5 &&& (3 : Int32))), .val (.long z6), .second, .val (.long z6), .second, .val (.ref b7), .val (.ref b9), .val (.int (((p5.toUInt32 >>> ((8 : Int32) &&& 31).toUInt32).toInt32) &&& (3 : Int32))), .val .null]) rfl) ?_
          show Go p.tables e below T10 (mkF m 214 #[.val (.int p1), .val (.long p2), .second, .val (.int p3), .val (.long p4), .second, .val (.int p5), .val (.int (0 : Int32)), .val (.int (0 : Int32)), .val (.long p2), .second, .val (.int (p5 &&& (3 : Int32))), .val (.long z6), .second, .val (.long z6), .second, .val (.ref b7), .val (.ref b9), .val (.int (((p5.toUInt32 >>> ((8 : Int32) &&& 31).toUInt32).toInt32) &&& (3 : Int32))), .val .null] []) _
          refine go1 (fun _ => XS.aload X10.here hx rfl (hb hby at_214) rfl rfl) ?_
          show Go p.tables e below T10 (mkF m 216 #[.val (.int p1), .val (.long p2), .second, .val (.int p3), .val (.long p4), .second, .val (.int p5), .val (.int (0 : Int32)), .val (.int (0 : Int32)), .val (.long p2), .second, .val (.int (p5 &&& (3 : Int32))), .val (.long z6), .second, .val (.long z6), .second, .val (.ref b7), .val (.ref b9), .val (.int (((p5.toUInt32 >>> ((8 : Int32) &&& 31).toUInt32).toInt32) &&& (3 : Int32))), .val .null] [(.ref b7)]) _
          refine go1 (fun _ => XS.aload X10.here hx rfl (hb hby at_216) rfl rfl) ?_
          show Go p.tables e below T10 (mkF m 218 #[.val (.int p1), .val (.long p2), .second, .val (.int p3), .val (.long p4), .second, .val (.int p5), .val (.int (0 : Int32)), .val (.int (0 : Int32)), .val (.long p2), .second, .val (.int (p5 &&& (3 : Int32))), .val (.long z6), .second, .val (.long z6), .second, .val (.ref b7), .val (.ref b9), .val (.int (((p5.toUInt32 >>> ((8 : Int32) &&& 31).toUInt32).toInt32) &&& (3 : Int32))), .val .null] [.null, (.ref b7)]) _
          obtain ⟨cq18, kq18, q18a, q18b, q18c⟩ := isOf hZ rfl ((G8_0.ext E9).keep K10)
          obtain ⟨_, _, ⟨T18, L18, k18, n18⟩, -, X18, ⟨Lc18, hQ18, l18, y18, z18⟩, st18⟩ := X10.virtualBack hx (y := (⟨"com/example/stubwright/stubwright/idl/UnionType$Label", "equals", "(Ljava/lang/Object;)Z"⟩ : MethodName)) (z := (⟨"com/example/stubwright/stubwright/idl/UnionType$Label", "equals", "(Ljava/lang/Object;)Z"⟩ : MethodName)) hown (mvT hZ (hw _ (List.mem_of_getElem? (i := 18) rfl))) (mvT hZ (hw _ (List.mem_of_getElem? (i := 19) rfl))) (notFace_of_selects (args := #[]) (mvT hZ (hw _ (List.mem_of_getElem? (i := 21) rfl)))) (mvT hZ (hw _ (List.mem_of_getElem? (i := 21) rfl))) (mvT hZ (hw _ (List.mem_of_getElem? (i := 20) rfl))) (by decide) (backOf (W := 0) (rm4b l Z a0 hw [] b7 T10.heap n0 (Nat.le_trans (Nat.le_trans (Nat.le_trans (Nat.le_trans Z0 E7.1) K8.1) E9.1) K10.1) ) hZ (hw _ (List.mem_of_getElem? (i := 22) rfl)) (hw _ (List.mem_of_getElem? (i := 2) rfl)) (by decide) (by decide)) q18a q18c (g := (mkF m 218 #[.val (.int p1), .val (.long p2), .second, .val (.int p3), .val (.long p4), .second, .val (.int p5), .val (.int (0 : Int32)), .val (.int (0 : Int32)), .val (.long p2), .second, .val (.int (p5 &&& (3 : Int32))), .val (.long z6), .second, .val (.long z6), .second, .val (.ref b7), .val (.ref b9), .val (.int (((p5.toUInt32 >>> ((8 : Int32) &&& 31).toUInt32).toInt32) &&& (3 : Int32))), .val .null] [.null, (.ref b7)])) rfl (by rw [hml]; rfl) (Steps.refl _) (argsL := [.null]) (rest := []) (lenOf pd0_1 rfl) rfl (by show 2 * 0 + _ ≤ _; exact Nat.le_of_eq rfl) (hb hby at_218) (fun _ _ => ⟨rfl, rfl, (by decide : 2 + 0 ≤ _), (by decide : 4 + 0 ≤ _)⟩)
          dsimp only [Pt.U, Pt.locs, Pt.cells, Pt.slots] at X18 l18 y18 z18 st18 hQ18
          subst l18 y18 z18
          obtain ⟨rfl, N18q, e18⟩ := hQ18
          have N18 := Fr.app N10 N18q
          refine goT st18 ?_
          show Go p.tables e below T18 (mkF m 221 #[.val (.int p1), .val (.long p2), .second, .val (.int p3), .val (.long p4), .second, .val (.int p5), .val (.int (0 : Int32)), .val (.int (0 : Int32)), .val (.long p2), .second, .val (.int (p5 &&& (3 : Int32))), .val (.long z6), .second, .val (.long z6), .second, .val (.ref b7), .val (.ref b9), .val (.int (((p5.toUInt32 >>> ((8 : Int32) &&& 31).toUInt32).toInt32) &&& (3 : Int32))), .val .null] [(.int (0 : Int32))]) _
          refine go1 (fun _ => XS.ifNo X18.here hx rfl (hb hby at_221) rfl ((if0 _ _).trans (teq (by decide : (0 : Int32) = (0 : Int32))).2)) ?_
          show Go p.tables e below T18 (mkF m 224 #[.val (.int p1), .val (.long p2), .second, .val (.int p3), .val (.long p4), .second, .val (.int p5), .val (.int (0 : Int32)), .val (.int (0 : Int32)), .val (.long p2), .second, .val (.int (p5 &&& (3 : Int32))), .val (.long z6), .second, .val (.long z6), .second, .val (.ref b7), .val (.ref b9), .val (.int (((p5.toUInt32 >>> ((8 : Int32) &&& 31).toUInt32).toInt32) &&& (3 : Int32))), .val .null] []) _
          refine go1 (fun _ => XS.iconst X18.here hx rfl (hb hby at_224)) ?_
          show Go p.tables e below T18 (mkF m 225 #[.val (.int p1), .val (.long p2), .second, .val (.int p3), .val (.long p4), .second, .val (.int p5), .val (.int (0 : Int32)), .val (.int (0 : Int32)), .val (.long p2), .second, .val (.int (p5 &&& (3 : Int32))), .val (.long z6), .second, .val (.long z6), .second, .val (.ref b7), .val (.ref b9), .val (.int (((p5.toUInt32 >>> ((8 : Int32) &&& 31).toUInt32).toInt32) &&& (3 : Int32))), .val .null] [(.int (1 : Int32))]) _
          refine go1 (fun _ => XS.goto X18.here hx rfl (pc0 := 225) (pc' := 229) rfl (hb hby at_225) (by decide) (by decide)) ?_
          show Go p.tables e below T18 (mkF m 229 #[.val (.int p1), .val (.long p2), .second, .val (.int p3), .val (.long p4), .second, .val (.int p5), .val (.int (0 : Int32)), .val (.int (0 : Int32)), .val (.long p2), .second, .val (.int (p5 &&& (3 : Int32))), .val (.long z6), .second, .val (.long z6), .second, .val (.ref b7), .val (.ref b9), .val (.int (((p5.toUInt32 >>> ((8 : Int32) &&& 31).toUInt32).toInt32) &&& (3 : Int32))), .val .null] [(.int (1 : Int32))]) _
          refine goR X18 (BodyLoose.notSynchronized Bd) (v := (some (.int (1 : Int32)))) (fun h => by rw [Bd.returns] at h; cases h) (Q0 Z p1 p2 p3 p4 p5 a_cache h0 n0) (fun fs hr => retN X18 hx (t := .boolean) Bd.returns (by simp) (hb hby at_229) hr) (by decide) (by decide) ?_
          show Q0 Z p1 p2 p3 p4 p5 a_cache h0 n0 _ T18.heap _
          rw [e18]
          exact ⟨rfl, N18⟩
        · skip
          refine go1 (fun _ => XS.icmpYes X10.here hx rfl (pc0 := 208) (pc' := 230) rfl (hb hby at_208) rfl (feq hc17).2 (by decide) (by decide)) ?_
          show Go p.tables e below T10 (mkF m 230 #[.val (.int p1), .val (.long p2), .second, .val (.int p3), .val (.long p4), .second, .val (.int p5), .val (.int (0 : Int32)), .val (.int (0 : Int32)), .val (.long p2), .second, .val (.int (p5 &&& (3 : Int32))), .val (.long z6), .second, .val (.long z6), .second, .val (.ref b7), .val (.ref b9), .val (.int (((p5.toUInt32 >>> ((8 : Int32) &&& 31).toUInt32).toInt32) &&& (3 : Int32))), .unset] []) _
          refine go1 (fun _ => XS.iload X10.here hx rfl (hb hby at_230) rfl) ?_
          show Go p.tables e below T10 (mkF m 232 #[.val (.int p1), .val (.long p2), .second, .val (.int p3), .val (.long p4), .second, .val (.int p5), .val (.int (0 : Int32)), .val (.int (0 : Int32)), .val (.long p2), .second, .val (.int (p5 &&& (3 : Int32))), .val (.long z6), .second, .val (.long z6), .second, .val (.ref b7), .val (.ref b9), .val (.int (((p5.toUInt32 >>> ((8 : Int32) &&& 31).toUInt32).toInt32) &&& (3 : Int32))), .unset] [(.int (((p5.toUInt32 >>> ((8 : Int32) &&& 31).toUInt32).toInt32) &&& (3 : Int32)))]) _
          refine go1 (fun _ => XS.iconst X10.here hx rfl (hb hby at_232)) ?_
          show Go p.tables e below T10 (mkF m 233 #[.val (.int p1), .val (.long p2), .second, .val (.int p3), .val (.long p4), .second, .val (.int p5), .val (.int (0 : Int32)), .val (.int (0 : Int32)), .val (.long p2), .second, .val (.int (p5 &&& (3 : Int32))), .val (.long z6), .second, .val (.long z6), .second, .val (.ref b7), .val (.ref b9), .val (.int (((p5.toUInt32 >>> ((8 : Int32) &&& 31).toUInt32).toInt32) &&& (3 : Int32))), .unset] [(.int (2 : Int32)), (.int (((p5.toUInt32 >>> ((8 : Int32) &&& 31).toUInt32).toInt32) &&& (3 : Int32)))]) _
          by_cases hc19 : (((p5.toUInt32 >>> ((8 : Int32) &&& 31).toUInt32).toInt32) &&& (3 : Int32)) = (2 : Int32)
          · skip
            refine go1 (fun _ => XS.icmpNo X10.here hx rfl (hb hby at_233) rfl (teq hc19).2) ?_
            show Go p.tables e below T10 (mkF m 236 #[.val (.int p1), .val (.long p2), .second, .val (.int p3), .val (.long p4), .second, .val (.int p5), .val (.int (0 : Int32)), .val (.int (0 : Int32)), .val (.long p2), .second, .val (.int (p5 &&& (3 : Int32))), .val (.long z6), .second, .val (.long z6), .second, .val (.ref b7), .val (.ref b9), .val (.int (((p5.toUInt32 >>> ((8 : Int32) &&& 31).toUInt32).toInt32) &&& (3 : Int32))), .unset] []) _
            refine go1 (fun _ => XS.lload X10.here hx rfl (hb hby at_236) rfl) ?_
            show Go p.tables e below T10 (mkF m 238 #[.val (.int p1), .val (.long p2), .second, .val (.int p3), .val (.long p4), .second, .val (.int p5), .val (.int (0 : Int32)), .val (.int (0 : Int32)), .val (.long p2), .second, .val (.int (p5 &&& (3 : Int32))), .val (.long z6), .second, .val (.long z6), .second, .val (.ref b7), .val (.ref b9), .val (.int (((p5.toUInt32 >>> ((8 : Int32) &&& 31).toUInt32).toInt32) &&& (3 : Int32))), .unset] [(.long p2)]) _
            obtain ⟨_, _, ⟨T20, L20, k20, n20⟩, -, X20, ⟨Lc20, hQ20, l20, y20, z20⟩, st20⟩ := Jvm.LawKit.callS X10 hx (y := (⟨"java/lang/Long", "valueOf", "(J)Ljava/lang/Long;"⟩ : MethodName)) hown (mvT hZ (hw _ (List.mem_of_getElem? (i := 26) rfl))) (mvT hZ (hw _ (List.mem_of_getElem? (i := 27) rfl))) (mvT hZ (hw _ (List.mem_of_getElem? (i := 28) rfl))) (mvT hZ (hw _ (List.mem_of_getElem? (i := 29) rfl))) (by decide) (backOf (W := 0) (rm5 l Z a0 hw [] p2 a_cache T10.heap n0 (Nat.le_trans (Nat.le_trans (Nat.le_trans (Nat.le_trans Z0 E7.1) K8.1) E9.1) K10.1) ((((O0.ext E7).keep K8 (allS g_b7 all0)).ext E9).keep K10 (allS g_b9 all0)) S_cache BX_a_cache) hZ (hw _ (List.mem_of_getElem? (i := 29) rfl)) (hw _ (List.mem_of_getElem? (i := 28) rfl)) (by decide) (by decide)) (g := (mkF m 238 #[.val (.int p1), .val (.long p2), .second, .val (.int p3), .val (.long p4), .second, .val (.int p5), .val (.int (0 : Int32)), .val (.int (0 : Int32)), .val (.long p2), .second, .val (.int (p5 &&& (3 : Int32))), .val (.long z6), .second, .val (.long z6), .second, .val (.ref b7), .val (.ref b9), .val (.int (((p5.toUInt32 >>> ((8 : Int32) &&& 31).toUInt32).toInt32) &&& (3 : Int32))), .unset] [(.long p2)])) rfl (by rw [hml]; rfl) (argsL := [(.long p2)]) (rest := []) (lenOf pd0_2 rfl) rfl (by show 2 * 0 + _ ≤ _; exact Nat.le_of_eq rfl) (hb hby at_238) (fun _ _ => ⟨rfl, rfl, (by decide : 2 + 1 ≤ _), (by decide : 4 + 1 ≤ _)⟩)
            dsimp only [Pt.U, Pt.locs, Pt.cells, Pt.slots] at X20 l20 y20 z20 st20 hQ20
            subst l20 y20 z20
            obtain ⟨b21, rfl, N20q, K20, G20_0, G20_1⟩ := hQ20
            have N20 := Fr.app N10 N20q
            refine go1 st20 ?_
            show Go p.tables e below T20 (mkF m 241 #[.val (.int p1), .val (.long p2), .second, .val (.int p3), .val (.long p4), .second, .val (.int p5), .val (.int (0 : Int32)), .val (.int (0 : Int32)), .val (.long p2), .second, .val (.int (p5 &&& (3 : Int32))), .val (.long z6), .second, .val (.long z6), .second, .val (.ref b7), .val (.ref b9), .val (.int (((p5.toUInt32 >>> ((8 : Int32) &&& 31).toUInt32).toInt32) &&& (3 : Int32))), .unset] [(.ref b21)]) _
            refine go1 (fun _ => XS.astore X20.here hx rfl (hb hby at_241) rfl rfl (l' := #[.val (.int p1), .val (.long p2), .second, .val (.int p3), .val (.long p4), .second, .val (.int p5), .val (.int (0 : Int32)), .val (.int (0 : Int32)), .val (.long p2), .second, .val (.int (p5 &&& (3 : Int32))), .val (.long z6), .second, .val (.long z6), .second, .val (.ref b7), .val (.ref b9), .val (.int (((p5.toUInt32 >>> ((8 : Int32) &&& 31).toUInt32).toInt32) &&& (3 : Int32))), .val (.ref b21)]) rfl) ?_
            show Go p.tables e below T20 (mkF m 243 #[.val (.int p1), .val (.long p2), .second, .val (.int p3), .val (.long p4), .second, .val (.int p5), .val (.int (0 : Int32)), .val (.int (0 : Int32)), .val (.long p2), .second, .val (.int (p5 &&& (3 : Int32))), .val (.long z6), .second, .val (.long z6), .second, .val (.ref b7), .val (.ref b9), .val (.int (((p5.toUInt32 >>> ((8 : Int32) &&& 31).toUInt32).toInt32) &&& (3 : Int32))), .val (.ref b21)] []) _
            refine go1 (fun _ => XS.aload X20.here hx rfl (hb hby at_243) rfl rfl) ?_
            show Go p.tables e below T20 (mkF m 245 #[.val (.int p1), .val (.long p2), .second, .val (.int p3), .val (.long p4), .second, .val (.int p5), .val (.int (0 : Int32)), .val (.int (0 : Int32)), .val (.long p2), .second, .val (.int (p5 &&& (3 : Int32))), .val (.long z6), .second, .val (.long z6), .second, .val (.ref b7), .val (.ref b9), .val (.int (((p5.toUInt32 >>> ((8 : Int32) &&& 31).toUInt32).toInt32) &&& (3 : Int32))), .val (.ref b21)] [(.ref b7)]) _
            refine go1 (fun _ => XS.aload X20.here hx rfl (hb hby at_245) rfl rfl) ?_
            show Go p.tables e below T20 (mkF m 247 #[.val (.int p1), .val (.long p2), .second, .val (.int p3), .val (.long p4), .second, .val (.int p5), .val (.int (0 : Int32)), .val (.int (0 : Int32)), .val (.long p2), .second, .val (.int (p5 &&& (3 : Int32))), .val (.long z6), .second, .val (.long z6), .second, .val (.ref b7), .val (.ref b9), .val (.int (((p5.toUInt32 >>> ((8 : Int32) &&& 31).toUInt32).toInt32) &&& (3 : Int32))), .val (.ref b21)] [(.ref b21), (.ref b7)]) _
            obtain ⟨cq22, kq22, q22a, q22b, q22c⟩ := isOf hZ rfl (((G8_0.ext E9).keep K10).keep K20)
            obtain ⟨_, _, ⟨T22, L22, k22, n22⟩, -, X22, ⟨Lc22, hQ22, l22, y22, z22⟩, st22⟩ := X20.virtualBack hx (y := (⟨"com/example/stubwright/stubwright/idl/UnionType$Label", "equals", "(Ljava/lang/Object;)Z"⟩ : MethodName)) (z := (⟨"com/example/stubwright/stubwright/idl/UnionType$Label", "equals", "(Ljava/lang/Object;)Z"⟩ : MethodName)) hown (mvT hZ (hw _ (List.mem_of_getElem? (i := 18) rfl))) (mvT hZ (hw _ (List.mem_of_getElem? (i := 19) rfl))) (notFace_of_selects (args := #[]) (mvT hZ (hw _ (List.mem_of_getElem? (i := 21) rfl)))) (mvT hZ (hw _ (List.mem_of_getElem? (i := 21) rfl))) (mvT hZ (hw _ (List.mem_of_getElem? (i := 20) rfl))) (by decide) (backOf (W := 0) (rm4c l Z a0 hw [] b7 b21 T20.heap n0 (Nat.le_trans (Nat.le_trans (Nat.le_trans (Nat.le_trans (Nat.le_trans Z0 E7.1) K8.1) E9.1) K10.1) K20.1) G20_0) hZ (hw _ (List.mem_of_getElem? (i := 22) rfl)) (hw _ (List.mem_of_getElem? (i := 2) rfl)) (by decide) (by decide)) q22a q22c (g := (mkF m 247 #[.val (.int p1), .val (.long p2), .second, .val (.int p3), .val (.long p4), .second, .val (.int p5), .val (.int (0 : Int32)), .val (.int (0 : Int32)), .val (.long p2), .second, .val (.int (p5 &&& (3 : Int32))), .val (.long z6), .second, .val (.long z6), .second, .val (.ref b7), .val (.ref b9), .val (.int (((p5.toUInt32 >>> ((8 : Int32) &&& 31).toUInt32).toInt32) &&& (3 : Int32))), .val (.ref b21)] [(.ref b21), (.ref b7)])) rfl (by rw [hml]; rfl) (Steps.refl _) (argsL := [(.ref b21)]) (rest := []) (lenOf pd0_1 rfl) rfl (by show 2 * 0 + _ ≤ _; exact Nat.le_of_eq rfl) (hb hby at_247) (fun _ _ => ⟨rfl, rfl, (by decide : 3 + 0 ≤ _), (by decide : 5 + 0 ≤ _)⟩)
            dsimp only [Pt.U, Pt.locs, Pt.cells, Pt.slots] at X22 l22 y22 z22 st22 hQ22
            subst l22 y22 z22
            obtain ⟨rfl, N22q, e22⟩ := hQ22
            have N22 := Fr.app N20 N22q
            refine goT st22 ?_
            show Go p.tables e below T22 (mkF m 250 #[.val (.int p1), .val (.long p2), .second, .val (.int p3), .val (.long p4), .second, .val (.int p5), .val (.int (0 : Int32)), .val (.int (0 : Int32)), .val (.long p2), .second, .val (.int (p5 &&& (3 : Int32))), .val (.long z6), .second, .val (.long z6), .second, .val (.ref b7), .val (.ref b9), .val (.int (((p5.toUInt32 >>> ((8 : Int32) &&& 31).toUInt32).toInt32) &&& (3 : Int32))), .val (.ref b21)] [(.int (0 : Int32))]) _
            refine go1 (fun _ => XS.ifNo X22.here hx rfl (hb hby at_250) rfl ((if0 _ _).trans (teq (by decide : (0 : Int32) = (0 : Int32))).2)) ?_
            show Go p.tables e below T22 (mkF m 253 #[.val (.int p1), .val (.long p2), .second, .val (.int p3), .val (.long p4), .second, .val (.int p5), .val (.int (0 : Int32)), .val (.int (0 : Int32)), .val (.long p2), .second, .val (.int (p5 &&& (3 : Int32))), .val (.long z6), .second, .val (.long z6), .second, .val (.ref b7), .val (.ref b9), .val (.int (((p5.toUInt32 >>> ((8 : Int32) &&& 31).toUInt32).toInt32) &&& (3 : Int32))), .val (.ref b21)] []) _
            refine go1 (fun _ => XS.iconst X22.here hx rfl (hb hby at_253)) ?_
            show Go p.tables e below T22 (mkF m 254 #[.val (.int p1), .val (.long p2), .second, .val (.int p3), .val (.long p4), .second, .val (.int p5), .val (.int (0 : Int32)), .val (.int (0 : Int32)), .val (.long p2), .second, .val (.int (p5 &&& (3 : Int32))), .val (.long z6), .second, .val (.long z6), .second, .val (.ref b7), .val (.ref b9), .val (.int (((p5.toUInt32 >>> ((8 : Int32) &&& 31).toUInt32).toInt32) &&& (3 : Int32))), .val (.ref b21)] [(.int (1 : Int32))]) _
            refine go1 (fun _ => XS.goto X22.here hx rfl (pc0 := 254) (pc' := 258) rfl (hb hby at_254) (by decide) (by decide)) ?_
            show Go p.tables e below T22 (mkF m 258 #[.val (.int p1), .val (.long p2), .second, .val (.int p3), .val (.long p4), .second, .val (.int p5), .val (.int (0 : Int32)), .val (.int (0 : Int32)), .val (.long p2), .second, .val (.int (p5 &&& (3 : Int32))), .val (.long z6), .second, .val (.long z6), .second, .val (.ref b7), .val (.ref b9), .val (.int (((p5.toUInt32 >>> ((8 : Int32) &&& 31).toUInt32).toInt32) &&& (3 : Int32))), .val (.ref b21)] [(.int (1 : Int32))]) _
            refine goR X22 (BodyLoose.notSynchronized Bd) (v := (some (.int (1 : Int32)))) (fun h => by rw [Bd.returns] at h; cases h) (Q0 Z p1 p2 p3 p4 p5 a_cache h0 n0) (fun fs hr => retN X22 hx (t := .boolean) Bd.returns (by simp) (hb hby at_258) hr) (by decide) (by decide) ?_
            show Q0 Z p1 p2 p3 p4 p5 a_cache h0 n0 _ T22.heap _
            rw [e22]
            exact ⟨rfl, N22⟩
          · skip
            refine go1 (fun _ => XS.icmpYes X10.here hx rfl (pc0 := 233) (pc' := 259) rfl (hb hby at_233) rfl (feq hc19).2 (by decide) (by decide)) ?_
            show Go p.tables e below T10 (mkF m 259 #[.val (.int p1), .val (.long p2), .second, .val (.int p3), .val (.long p4), .second, .val (.int p5), .val (.int (0 : Int32)), .val (.int (0 : Int32)), .val (.long p2), .second, .val (.int (p5 &&& (3 : Int32))), .val (.long z6), .second, .val (.long z6), .second, .val (.ref b7), .val (.ref b9), .val (.int (((p5.toUInt32 >>> ((8 : Int32) &&& 31).toUInt32).toInt32) &&& (3 : Int32))), .unset] []) _
            refine go1 (fun _ => XS.aload X10.here hx rfl (hb hby at_259) rfl rfl) ?_
            show Go p.tables e below T10 (mkF m 261 #[.val (.int p1), .val (.long p2), .second, .val (.int p3), .val (.long p4), .second, .val (.int p5), .val (.int (0 : Int32)), .val (.int (0 : Int32)), .val (.long p2), .second, .val (.int (p5 &&& (3 : Int32))), .val (.long z6), .second, .val (.long z6), .second, .val (.ref b7), .val (.ref b9), .val (.int (((p5.toUInt32 >>> ((8 : Int32) &&& 31).toUInt32).toInt32) &&& (3 : Int32))), .unset] [(.ref b7)]) _
            refine go1 (fun _ => XS.astore X10.here hx rfl (hb hby at_261) rfl rfl (l' := #[.val (.int p1), .val (.long p2), .second, .val (.int p3), .val (.long p4), .second, .val (.int p5), .val (.int (0 : Int32)), .val (.int (0 : Int32)), .val (.long p2), .second, .val (.int (p5 &&& (3 : Int32))), .val (.long z6), .second, .val (.long z6), .second, .val (.ref b7), .val (.ref b9), .val (.int (((p5.toUInt32 >>> ((8 : Int32) &&& 31).toUInt32).toInt32) &&& (3 : Int32))), .val (.ref b7)]) rfl) ?_
            show Go p.tables e below T10 (mkF m 263 #[.val (.int p1), .val (.long p2), .second, .val (.int p3), .val (.long p4), .second, .val (.int p5), .val (.int (0 : Int32)), .val (.int (0 : Int32)), .val (.long p2), .second, .val (.int (p5 &&& (3 : Int32))), .val (.long z6), .second, .val (.long z6), .second, .val (.ref b7), .val (.ref b9), .val (.int (((p5.toUInt32 >>> ((8 : Int32) &&& 31).toUInt32).toInt32) &&& (3 : Int32))), .val (.ref b7)] []) _
            refine go1 (fun _ => XS.aload X10.here hx rfl (hb hby at_263) rfl rfl) ?_
            show Go p.tables e below T10 (mkF m 265 #[.val (.int p1), .val (.long p2), .second, .val (.int p3), .val (.long p4), .second, .val (.int p5), .val (.int (0 : Int32)), .val (.int (0 : Int32)), .val (.long p2), .second, .val (.int (p5 &&& (3 : Int32))), .val (.long z6), .second, .val (.long z6), .second, .val (.ref b7), .val (.ref b9), .val (.int (((p5.toUInt32 >>> ((8 : Int32) &&& 31).toUInt32).toInt32) &&& (3 : Int32))), .val (.ref b7)] [(.ref b7)]) _
            refine go1 (fun _ => XS.aload X10.here hx rfl (hb hby at_265) rfl rfl) ?_
            show Go p.tables e below T10 (mkF m 267 #[.val (.int p1), .val (.long p2), .second, .val (.int p3), .val (.long p4), .second, .val (.int p5), .val (.int (0 : Int32)), .val (.int (0 : Int32)), .val (.long p2), .second, .val (.int (p5 &&& (3 : Int32))), .val (.long z6), .second, .val (.long z6), .second, .val (.ref b7), .val (.ref b9), .val (.int (((p5.toUInt32 >>> ((8 : Int32) &&& 31).toUInt32).toInt32) &&& (3 : Int32))), .val (.ref b7)] [(.ref b7), (.ref b7)]) _
            obtain ⟨cq23, kq23, q23a, q23b, q23c⟩ := isOf hZ rfl ((G8_0.ext E9).keep K10)
            obtain ⟨_, _, ⟨T23, L23, k23, n23⟩, -, X23, ⟨Lc23, hQ23, l23, y23, z23⟩, st23⟩ := X10.virtualBack hx (y := (⟨"com/example/stubwright/stubwright/idl/UnionType$Label", "equals", "(Ljava/lang/Object;)Z"⟩ : MethodName)) (z := (⟨"com/example/stubwright/stubwright/idl/UnionType$Label", "equals", "(Ljava/lang/Object;)Z"⟩ : MethodName)) hown (mvT hZ (hw _ (List.mem_of_getElem? (i := 18) rfl))) (mvT hZ (hw _ (List.mem_of_getElem? (i := 19) rfl))) (notFace_of_selects (args := #[]) (mvT hZ (hw _ (List.mem_of_getElem? (i := 21) rfl)))) (mvT hZ (hw _ (List.mem_of_getElem? (i := 21) rfl))) (mvT hZ (hw _ (List.mem_of_getElem? (i := 20) rfl))) (by decide) (backOf (W := 0) (rm4a l Z a0 hw [] b7 b7 (0 : Int32) p2 (0 : Int32) p2 T10.heap n0 (Nat.le_trans (Nat.le_trans (Nat.le_trans (Nat.le_trans Z0 E7.1) K8.1) E9.1) K10.1) ((G8_0.ext E9).keep K10) ((G8_1.ext E9).keep K10 (ninS (Nat.ne_of_lt (Nat.lt_of_lt_of_le G8_2.lt (Nat.le_of_eq g9.symm))) nin0)) ((G8_2.ext E9).keep K10 (ninS (Nat.ne_of_lt (Nat.lt_of_lt_of_le G8_2.lt (Nat.le_of_eq g9.symm))) nin0)) ((G8_1.ext E9).keep K10 (ninS (Nat.ne_of_lt (Nat.lt_of_lt_of_le G8_2.lt (Nat.le_of_eq g9.symm))) nin0)) ((G8_2.ext E9).keep K10 (ninS (Nat.ne_of_lt (Nat.lt_of_lt_of_le G8_2.lt (Nat.le_of_eq g9.symm))) nin0))) hZ (hw _ (List.mem_of_getElem? (i := 22) rfl)) (hw _ (List.mem_of_getElem? (i := 2) rfl)) (by decide) (by decide)) q23a q23c (g := (mkF m 267 #[.val (.int p1), .val (.long p2), .second, .val (.int p3), .val (.long p4), .second, .val (.int p5), .val (.int (0 : Int32)), .val (.int (0 : Int32)), .val (.long p2), .second, .val (.int (p5 &&& (3 : Int32))), .val (.long z6), .second, .val (.long z6), .second, .val (.ref b7), .val (.ref b9), .val (.int (((p5.toUInt32 >>> ((8 : Int32) &&& 31).toUInt32).toInt32) &&& (3 : Int32))), .val (.ref b7)] [(.ref b7), (.ref b7)])) rfl (by rw [hml]; rfl) (Steps.refl _) (argsL := [(.ref b7)]) (rest := []) (lenOf pd0_1 rfl) rfl (by show 2 * 0 + _ ≤ _; exact Nat.le_of_eq rfl) (hb hby at_267) (fun _ _ => ⟨rfl, rfl, (by decide : 2 + 0 ≤ _), (by decide : 4 + 0 ≤ _)⟩)
            dsimp only [Pt.U, Pt.locs, Pt.cells, Pt.slots] at X23 l23 y23 z23 st23 hQ23
            subst l23 y23 z23
            obtain ⟨rfl, N23q, e23⟩ := hQ23
            have N23 := Fr.app N10 N23q
            refine goT st23 ?_
            show Go p.tables e below T23 (mkF m 270 #[.val (.int p1), .val (.long p2), .second, .val (.int p3), .val (.long p4), .second, .val (.int p5), .val (.int (0 : Int32)), .val (.int (0 : Int32)), .val (.long p2), .second, .val (.int (p5 &&& (3 : Int32))), .val (.long z6), .second, .val (.long z6), .second, .val (.ref b7), .val (.ref b9), .val (.int (((p5.toUInt32 >>> ((8 : Int32) &&& 31).toUInt32).toInt32) &&& (3 : Int32))), .val (.ref b7)] [(.int (own_4a (0 : Int32) p2 (0 : Int32) p2))]) _
            refine goR X23 (BodyLoose.notSynchronized Bd) (v := (some (.int (nar .boolean (own_4a (0 : Int32) p2 (0 : Int32) p2))))) (fun h => by rw [Bd.returns] at h; cases h) (Q0 Z p1 p2 p3 p4 p5 a_cache h0 n0) (fun fs hr => retN X23 hx (t := .boolean) Bd.returns (by simp) (hb hby at_270) hr) (by decide) (by decide) ?_
            show Q0 Z p1 p2 p3 p4 p5 a_cache h0 n0 _ T23.heap _
            rw [e23]
            exact ⟨(by simp [own_4a, nar]), N23⟩
    · skip
      refine go1 (fun _ => XS.ifNo X0.here hx rfl (hb hby at_16) rfl ((if0 _ _).trans (feq hc2).1)) ?_
      show Go p.tables e below s₁ (mkF m 19 #[.val (.int p1), .val (.long p2), .second, .val (.int p3), .val (.long p4), .second, .val (.int p5), .val (.int (0 : Int32)), .unset, .unset, .unset, .unset, .unset, .unset, .unset, .unset, .unset, .unset, .unset, .unset] []) _
      refine go1 (fun _ => XS.iconst X0.here hx rfl (hb hby at_19)) ?_
      show Go p.tables e below s₁ (mkF m 20 #[.val (.int p1), .val (.long p2), .second, .val (.int p3), .val (.long p4), .second, .val (.int p5), .val (.int (0 : Int32)), .unset, .unset, .unset, .unset, .unset, .unset, .unset, .unset, .unset, .unset, .unset, .unset] [(.int (1 : Int32))]) _
      refine go1 (fun _ => XS.goto X0.here hx rfl (pc0 := 20) (pc' := 24) rfl (hb hby at_20) (by decide) (by decide)) ?_
      show Go p.tables e below s₁ (mkF m 24 #[.val (.int p1), .val (.long p2), .second, .val (.int p3), .val (.long p4), .second, .val (.int p5), .val (.int (0 : Int32)), .unset, .unset, .unset, .unset, .unset, .unset, .unset, .unset, .unset, .unset, .unset, .unset] [(.int (1 : Int32))]) _
      refine go1 (fun _ => XS.istore X0.here hx rfl (hb hby at_24) rfl (l' := #[.val (.int p1), .val (.long p2), .second, .val (.int p3), .val (.long p4), .second, .val (.int p5), .val (.int (0 : Int32)), .val (.int (1 : Int32)), .unset, .unset, .unset, .unset, .unset, .unset, .unset, .unset, .unset, .unset, .unset]) rfl) ?_
      show Go p.tables e below s₁ (mkF m 26 #[.val (.int p1), .val (.long p2), .second, .val (.int p3), .val (.long p4), .second, .val (.int p5), .val (.int (0 : Int32)), .val (.int (1 : Int32)), .unset, .unset, .unset, .unset, .unset, .unset, .unset, .unset, .unset, .unset, .unset] []) _
      refine go1 (fun _ => XS.iload X0.here hx rfl (hb hby at_26) rfl) ?_
      show Go p.tables e below s₁ (mkF m 28 #[.val (.int p1), .val (.long p2), .second, .val (.int p3), .val (.long p4), .second, .val (.int p5), .val (.int (0 : Int32)), .val (.int (1 : Int32)), .unset, .unset, .unset, .unset, .unset, .unset, .unset, .unset, .unset, .unset, .unset] [(.int (0 : Int32))]) _
      refine go1 (fun _ => XS.ifYes X0.here hx rfl (pc0 := 28) (pc' := 35) rfl (hb hby at_28) rfl ((if0 _ _).trans (teq (by decide : (0 : Int32) = (0 : Int32))).1) (by decide) (by decide)) ?_
      show Go p.tables e below s₁ (mkF m 35 #[.val (.int p1), .val (.long p2), .second, .val (.int p3), .val (.long p4), .second, .val (.int p5), .val (.int (0 : Int32)), .val (.int (1 : Int32)), .unset, .unset, .unset, .unset, .unset, .unset, .unset, .unset, .unset, .unset, .unset] []) _
      refine go1 (fun _ => XS.lloadN X0.here hx rfl (hb hby at_35) rfl) ?_
      show Go p.tables e below s₁ (mkF m 36 #[.val (.int p1), .val (.long p2), .second, .val (.int p3), .val (.long p4), .second, .val (.int p5), .val (.int (0 : Int32)), .val (.int (1 : Int32)), .unset, .unset, .unset, .unset, .unset, .unset, .unset, .unset, .unset, .unset, .unset] [(.long p2)]) _
      refine go1 (fun _ => XS.lstore X0.here hx rfl (hb hby at_36) rfl (l' := #[.val (.int p1), .val (.long p2), .second, .val (.int p3), .val (.long p4), .second, .val (.int p5), .val (.int (0 : Int32)), .val (.int (1 : Int32)), .val (.long p2), .second, .unset, .unset, .unset, .unset, .unset, .unset, .unset, .unset, .unset]) rfl) ?_
      show Go p.tables e below s₁ (mkF m 38 #[.val (.int p1), .val (.long p2), .second, .val (.int p3), .val (.long p4), .second, .val (.int p5), .val (.int (0 : Int32)), .val (.int (1 : Int32)), .val (.long p2), .second, .unset, .unset, .unset, .unset, .unset, .unset, .unset, .unset, .unset] []) _
      refine go1 (fun _ => XS.iload X0.here hx rfl (hb hby at_38) rfl) ?_
      show Go p.tables e below s₁ (mkF m 40 #[.val (.int p1), .val (.long p2), .second, .val (.int p3), .val (.long p4), .second, .val (.int p5), .val (.int (0 : Int32)), .val (.int (1 : Int32)), .val (.long p2), .second, .unset, .unset, .unset, .unset, .unset, .unset, .unset, .unset, .unset] [(.int p5)]) _
      refine go1 (fun _ => XS.iconst X0.here hx rfl (hb hby at_40)) ?_
      show Go p.tables e below s₁ (mkF m 41 #[.val (.int p1), .val (.long p2), .second, .val (.int p3), .val (.long p4), .second, .val (.int p5), .val (.int (0 : Int32)), .val (.int (1 : Int32)), .val (.long p2), .second, .unset, .unset, .unset, .unset, .unset, .unset, .unset, .unset, .unset] [(.int (3 : Int32)), (.int p5)]) _
      refine go1 (fun _ => XS.iand X0.here hx rfl (hb hby at_41) rfl) ?_
      show Go p.tables e below s₁ (mkF m 42 #[.val (.int p1), .val (.long p2), .second, .val (.int p3), .val (.long p4), .second, .val (.int p5), .val (.int (0 : Int32)), .val (.int (1 : Int32)), .val (.long p2), .second, .unset, .unset, .unset, .unset, .unset, .unset, .unset, .unset, .unset] [(.int (p5 &&& (3 : Int32)))]) _
      refine go1 (fun _ => XS.istore X0.here hx rfl (hb hby at_42) rfl (l' := #[.val (.int p1), .val (.long p2), .second, .val (.int p3), .val (.long p4), .second, .val (.int p5), .val (.int (0 : Int32)), .val (.int (1 : Int32)), .val (.long p2), .second, .val (.int (p5 &&& (3 : Int32))), .unset, .unset, .unset, .unset, .unset, .unset, .unset, .unset]) rfl) ?_
      show Go p.tables e below s₁ (mkF m 44 #[.val (.int p1), .val (.long p2), .second, .val (.int p3), .val (.long p4), .second, .val (.int p5), .val (.int (0 : Int32)), .val (.int (1 : Int32)), .val (.long p2), .second, .val (.int (p5 &&& (3 : Int32))), .unset, .unset, .unset, .unset, .unset, .unset, .unset, .unset] []) _
      refine go1 (fun _ => XS.iload X0.here hx rfl (hb hby at_44) rfl) ?_
      show Go p.tables e below s₁ (mkF m 46 #[.val (.int p1), .val (.long p2), .second, .val (.int p3), .val (.long p4), .second, .val (.int p5), .val (.int (0 : Int32)), .val (.int (1 : Int32)), .val (.long p2), .second, .val (.int (p5 &&& (3 : Int32))), .unset, .unset, .unset, .unset, .unset, .unset, .unset, .unset] [(.int (p5 &&& (3 : Int32)))]) _
      refine go1 (T' := s₁) (g' := (mkF m 100 #[.val (.int p1), .val (.long p2), .second, .val (.int p3), .val (.long p4), .second, .val (.int p5), .val (.int (0 : Int32)), .val (.int (1 : Int32)), .val (.long p2), .second, .val (.int (p5 &&& (3 : Int32))), .val (.long (if (p5 &&& (3 : Int32)) = (0 : Int32) then p4 else (if (p5 &&& (3 : Int32)) = (1 : Int32) then p2 else (if (p5 &&& (3 : Int32)) = (2 : Int32) then (p2 ^^^ ((1 : Int64) <<< ((((p5.toUInt32 >>> ((2 : Int32) &&& 31).toUInt32).toInt32) &&& (63 : Int32)) &&& 0x3f).toInt64)) else (p2 ^^^ (-1 : Int64)))))), .second, .unset, .unset, .unset, .unset, .unset, .unset] [])) (fun t k => ?_) ?_
      · by_cases hd24 : (p5 &&& (3 : Int32)) = (0 : Int32)
        · skip
          rw [(if_pos hd24 : (if (p5 &&& (3 : Int32)) = (0 : Int32) then p4 else (if (p5 &&& (3 : Int32)) = (1 : Int32) then p2 else (if (p5 &&& (3 : Int32)) = (2 : Int32) then (p2 ^^^ ((1 : Int64) <<< ((((p5.toUInt32 >>> ((2 : Int32) &&& 31).toUInt32).toInt32) &&& (63 : Int32)) &&& 0x3f).toInt64)) else (p2 ^^^ (-1 : Int64))))) = p4)] at k
          show Steps p.tables e below (s₁.setTop (mkF m 46 #[.val (.int p1), .val (.long p2), .second, .val (.int p3), .val (.long p4), .second, .val (.int p5), .val (.int (0 : Int32)), .val (.int (1 : Int32)), .val (.long p2), .second, .val (.int (p5 &&& (3 : Int32))), .unset, .unset, .unset, .unset, .unset, .unset, .unset, .unset] [(.int (p5 &&& (3 : Int32)))])) _
          refine XS.ifNo X0.here hx rfl (hb hby at_46) rfl ((if0 _ _).trans (teq hd24).2) ?_
          show Steps p.tables e below (s₁.setTop (mkF m 49 #[.val (.int p1), .val (.long p2), .second, .val (.int p3), .val (.long p4), .second, .val (.int p5), .val (.int (0 : Int32)), .val (.int (1 : Int32)), .val (.long p2), .second, .val (.int (p5 &&& (3 : Int32))), .unset, .unset, .unset, .unset, .unset, .unset, .unset, .unset] [])) _
          refine XS.lload X0.here hx rfl (hb hby at_49) rfl ?_
          show Steps p.tables e below (s₁.setTop (mkF m 51 #[.val (.int p1), .val (.long p2), .second, .val (.int p3), .val (.long p4), .second, .val (.int p5), .val (.int (0 : Int32)), .val (.int (1 : Int32)), .val (.long p2), .second, .val (.int (p5 &&& (3 : Int32))), .unset, .unset, .unset, .unset, .unset, .unset, .unset, .unset] [(.long p4)])) _
          refine XS.lstore X0.here hx rfl (hb hby at_51) rfl (l' := #[.val (.int p1), .val (.long p2), .second, .val (.int p3), .val (.long p4), .second, .val (.int p5), .val (.int (0 : Int32)), .val (.int (1 : Int32)), .val (.long p2), .second, .val (.int (p5 &&& (3 : Int32))), .val (.long p4), .second, .unset, .unset, .unset, .unset, .unset, .unset]) rfl ?_
          show Steps p.tables e below (s₁.setTop (mkF m 53 #[.val (.int p1), .val (.long p2), .second, .val (.int p3), .val (.long p4), .second, .val (.int p5), .val (.int (0 : Int32)), .val (.int (1 : Int32)), .val (.long p2), .second, .val (.int (p5 &&& (3 : Int32))), .val (.long p4), .second, .unset, .unset, .unset, .unset, .unset, .unset] [])) _
          refine XS.goto X0.here hx rfl (pc0 := 53) (pc' := 100) rfl (hb hby at_53) (by decide) (by decide) ?_
          show Steps p.tables e below (s₁.setTop (mkF m 100 #[.val (.int p1), .val (.long p2), .second, .val (.int p3), .val (.long p4), .second, .val (.int p5), .val (.int (0 : Int32)), .val (.int (1 : Int32)), .val (.long p2), .second, .val (.int (p5 &&& (3 : Int32))), .val (.long p4), .second, .unset, .unset, .unset, .unset, .unset, .unset] [])) _
          exact k
        · skip
          rw [(if_neg hd24 : (if (p5 &&& (3 : Int32)) = (0 : Int32) then p4 else (if (p5 &&& (3 : Int32)) = (1 : Int32) then p2 else (if (p5 &&& (3 : Int32)) = (2 : Int32) then (p2 ^^^ ((1 : Int64) <<< ((((p5.toUInt32 >>> ((2 : Int32) &&& 31).toUInt32).toInt32) &&& (63 : Int32)) &&& 0x3f).toInt64)) else (p2 ^^^ (-1 : Int64))))) = (if (p5 &&& (3 : Int32)) = (1 : Int32) then p2 else (if (p5 &&& (3 : Int32)) = (2 : Int32) then (p2 ^^^ ((1 : Int64) <<< ((((p5.toUInt32 >>> ((2 : Int32) &&& 31).toUInt32).toInt32) &&& (63 : Int32)) &&& 0x3f).toInt64)) else (p2 ^^^ (-1 : Int64)))))] at k
          show Steps p.tables e below (s₁.setTop (mkF m 46 #[.val (.int p1), .val (.long p2), .second, .val (.int p3), .val (.long p4), .second, .val (.int p5), .val (.int (0 : Int32)), .val (.int (1 : Int32)), .val (.long p2), .second, .val (.int (p5 &&& (3 : Int32))), .unset, .unset, .unset, .unset, .unset, .unset, .unset, .unset] [(.int (p5 &&& (3 : Int32)))])) _
          refine XS.ifYes X0.here hx rfl (pc0 := 46) (pc' := 56) rfl (hb hby at_46) rfl ((if0 _ _).trans (feq hd24).2) (by decide) (by decide) ?_
          show Steps p.tables e below (s₁.setTop (mkF m 56 #[.val (.int p1), .val (.long p2), .second, .val (.int p3), .val (.long p4), .second, .val (.int p5), .val (.int (0 : Int32)), .val (.int (1 : Int32)), .val (.long p2), .second, .val (.int (p5 &&& (3 : Int32))), .unset, .unset, .unset, .unset, .unset, .unset, .unset, .unset] [])) _
          refine XS.iload X0.here hx rfl (hb hby at_56) rfl ?_
          show Steps p.tables e below (s₁.setTop (mkF m 58 #[.val (.int p1), .val (.long p2), .second, .val (.int p3), .val (.long p4), .second, .val (.int p5), .val (.int (0 : Int32)), .val (.int (1 : Int32)), .val (.long p2), .second, .val (.int (p5 &&& (3 : Int32))), .unset, .unset, .unset, .unset, .unset, .unset, .unset, .unset] [(.int (p5 &&& (3 : Int32)))])) _
          refine XS.iconst X0.here hx rfl (hb hby at_58) ?_
          show Steps p.tables e below (s₁.setTop (mkF m 59 #[.val (.int p1), .val (.long p2), .second, .val (.int p3), .val (.long p4), .second, .val (.int p5), .val (.int (0 : Int32)), .val (.int (1 : Int32)), .val (.long p2), .second, .val (.int (p5 &&& (3 : Int32))), .unset, .unset, .unset, .unset, .unset, .unset, .unset, .unset] [(.int (1 : Int32)), (.int (p5 &&& (3 : Int32)))])) _
          refine stp (T' := s₁) (g' := (mkF m 100 #[.val (.int p1), .val (.long p2), .second, .val (.int p3), .val (.long p4), .second, .val (.int p5), .val (.int (0 : Int32)), .val (.int (1 : Int32)), .val (.long p2), .second, .val (.int (p5 &&& (3 : Int32))), .val (.long (if (p5 &&& (3 : Int32)) = (1 : Int32) then p2 else (if (p5 &&& (3 : Int32)) = (2 : Int32) then (p2 ^^^ ((1 : Int64) <<< ((((p5.toUInt32 >>> ((2 : Int32) &&& 31).toUInt32).toInt32) &&& (63 : Int32)) &&& 0x3f).toInt64)) else (p2 ^^^ (-1 : Int64))))), .second, .unset, .unset, .unset, .unset, .unset, .unset] [])) (fun t k => ?_) ?_
          · by_cases hd25 : (p5 &&& (3 : Int32)) = (1 : Int32)
            · skip
              rw [(if_pos hd25 : (if (p5 &&& (3 : Int32)) = (1 : Int32) then p2 else (if (p5 &&& (3 : Int32)) = (2 : Int32) then (p2 ^^^ ((1 : Int64) <<< ((((p5.toUInt32 >>> ((2 : Int32) &&& 31).toUInt32).toInt32) &&& (63 : Int32)) &&& 0x3f).toInt64)) else (p2 ^^^ (-1 : Int64)))) = p2)] at k
              show Steps p.tables e below (s₁.setTop (mkF m 59 #[.val (.int p1), .val (.long p2), .second, .val (.int p3), .val (.long p4), .second, .val (.int p5), .val (.int (0 : Int32)), .val (.int (1 : Int32)), .val (.long p2), .second, .val (.int (p5 &&& (3 : Int32))), .unset, .unset, .unset, .unset, .unset, .unset, .unset, .unset] [(.int (1 : Int32)), (.int (p5 &&& (3 : Int32)))])) _
              refine XS.icmpNo X0.here hx rfl (hb hby at_59) rfl (teq hd25).2 ?_
              show Steps p.tables e below (s₁.setTop (mkF m 62 #[.val (.int p1), .val (.long p2), .second, .val (.int p3), .val (.long p4), .second, .val (.int p5), .val (.int (0 : Int32)), .val (.int (1 : Int32)), .val (.long p2), .second, .val (.int (p5 &&& (3 : Int32))), .unset, .unset, .unset, .unset, .unset, .unset, .unset, .unset] [])) _
              refine XS.lload X0.here hx rfl (hb hby at_62) rfl ?_
              show Steps p.tables e below (s₁.setTop (mkF m 64 #[.val (.int p1), .val (.long p2), .second, .val (.int p3), .val (.long p4), .second, .val (.int p5), .val (.int (0 : Int32)), .val (.int (1 : Int32)), .val (.long p2), .second, .val (.int (p5 &&& (3 : Int32))), .unset, .unset, .unset, .unset, .unset, .unset, .unset, .unset] [(.long p2)])) _
              refine XS.lstore X0.here hx rfl (hb hby at_64) rfl (l' := #[.val (.int p1), .val (.long p2), .second, .val (.int p3), .val (.long p4), .second, .val (.int p5), .val (.int (0 : Int32)), .val (.int (1 : Int32)), .val (.long p2), .second, .val (.int (p5 &&& (3 : Int32))), .val (.long p2), .second, .unset, .unset, .unset, .unset, .unset, .unset]) rfl ?_
              show Steps p.tables e below (s₁.setTop (mkF m 66 #[.val (.int p1), .val (.long p2), .second, .val (.int p3), .val (.long p4), .second, .val (.int p5), .val (.int (0 : Int32)), .val (.int (1 : Int32)), .val (.long p2), .second, .val (.int (p5 &&& (3 : Int32))), .val (.long p2), .second, .unset, .unset, .unset, .unset, .unset, .unset] [])) _
              refine XS.goto X0.here hx rfl (pc0 := 66) (pc' := 100) rfl (hb hby at_66) (by decide) (by decide) ?_
              show Steps p.tables e below (s₁.setTop (mkF m 100 #[.val (.int p1), .val (.long p2), .second, .val (.int p3), .val (.long p4), .second, .val (.int p5), .val (.int (0 : Int32)), .val (.int (1 : Int32)), .val (.long p2), .second, .val (.int (p5 &&& (3 : Int32))), .val (.long p2), .second, .unset, .unset, .unset, .unset, .unset, .unset] [])) _
              exact k
            · skip
              rw [(if_neg hd25 : (if (p5 &&& (3 : Int32)) = (1 : Int32) then p2 else (if (p5 &&& (3 : Int32)) = (2 : Int32) then (p2 ^^^ ((1 : Int64) <<< ((((p5.toUInt32 >>> ((2 : Int32) &&& 31).toUInt32).toInt32) &&& (63 : Int32)) &&& 0x3f).toInt64)) else (p2 ^^^ (-1 : Int64)))) = (if (p5 &&& (3 : Int32)) = (2 : Int32) then (p2 ^^^ ((1 : Int64) <<< ((((p5.toUInt32 >>> ((2 : Int32) &&& 31).toUInt32).toInt32) &&& (63 : Int32)) &&& 0x3f).toInt64)) else (p2 ^^^ (-1 : Int64))))] at k
              show Steps p.tables e below (s₁.setTop (mkF m 59 #[.val (.int p1), .val (.long p2), .second, .val (.int p3), .val (.long p4), .second, .val (.int p5), .val (.int (0 : Int32)), .val (.int (1 : Int32)), .val (.long p2), .second, .val (.int (p5 &&& (3 : Int32))), .unset, .unset, .unset, .unset, .unset, .unset, .unset, .unset] [(.int (1 : Int32)), (.int (p5 &&& (3 : Int32)))])) _
              refine XS.icmpYes X0.here hx rfl (pc0 := 59) (pc' := 69) rfl (hb hby at_59) rfl (feq hd25).2 (by decide) (by decide) ?_
              show Steps p.tables e below (s₁.setTop (mkF m 69 #[.val (.int p1), .val (.long p2), .second, .val (.int p3), .val (.long p4), .second, .val (.int p5), .val (.int (0 : Int32)), .val (.int (1 : Int32)), .val (.long p2), .second, .val (.int (p5 &&& (3 : Int32))), .unset, .unset, .unset, .unset, .unset, .unset, .unset, .unset] [])) _
              refine XS.iload X0.here hx rfl (hb hby at_69) rfl ?_
              show Steps p.tables e below (s₁.setTop (mkF m 71 #[.val (.int p1), .val (.long p2), .second, .val (.int p3), .val (.long p4), .second, .val (.int p5), .val (.int (0 : Int32)), .val (.int (1 : Int32)), .val (.long p2), .second, .val (.int (p5 &&& (3 : Int32))), .unset, .unset, .unset, .unset, .unset, .unset, .unset, .unset] [(.int (p5 &&& (3 : Int32)))])) _
              refine XS.iconst X0.here hx rfl (hb hby at_71) ?_
              show Steps p.tables e below (s₁.setTop (mkF m 72 #[.val (.int p1), .val (.long p2), .second, .val (.int p3), .val (.long p4), .second, .val (.int p5), .val (.int (0 : Int32)), .val (.int (1 : Int32)), .val (.long p2), .second, .val (.int (p5 &&& (3 : Int32))), .unset, .unset, .unset, .unset, .unset, .unset, .unset, .unset] [(.int (2 : Int32)), (.int (p5 &&& (3 : Int32)))])) _
              refine stp (T' := s₁) (g' := (mkF m 100 #[.val (.int p1), .val (.long p2), .second, .val (.int p3), .val (.long p4), .second, .val (.int p5), .val (.int (0 : Int32)), .val (.int (1 : Int32)), .val (.long p2), .second, .val (.int (p5 &&& (3 : Int32))), .val (.long (if (p5 &&& (3 : Int32)) = (2 : Int32) then (p2 ^^^ ((1 : Int64) <<< ((((p5.toUInt32 >>> ((2 : Int32) &&& 31).toUInt32).toInt32) &&& (63 : Int32)) &&& 0x3f).toInt64)) else (p2 ^^^ (-1 : Int64)))), .second, .unset, .unset, .unset, .unset, .unset, .unset] [])) (fun t k => ?_) ?_
              · by_cases hd26 : (p5 &&& (3 : Int32)) = (2 : Int32)
                · skip
                  rw [(if_pos hd26 : (if (p5 &&& (3 : Int32)) = (2 : Int32) then (p2 ^^^ ((1 : Int64) <<< ((((p5.toUInt32 >>> ((2 : Int32) &&& 31).toUInt32).toInt32) &&& (63 : Int32)) &&& 0x3f).toInt64)) else (p2 ^^^ (-1 : Int64))) = (p2 ^^^ ((1 : Int64) <<< ((((p5.toUInt32 >>> ((2 : Int32) &&& 31).toUInt32).toInt32) &&& (63 : Int32)) &&& 0x3f).toInt64)))] at k
                  show Steps p.tables e below (s₁.setTop (mkF m 72 #[.val (.int p1), .val (.long p2), .second, .val (.int p3), .val (.long p4), .second, .val (.int p5), .val (.int (0 : Int32)), .val (.int (1 : Int32)), .val (.long p2), .second, .val (.int (p5 &&& (3 : Int32))), .unset, .unset, .unset, .unset, .unset, .unset, .unset, .unset] [(.int (2 : Int32)), (.int (p5 &&& (3 : Int32)))])) _
                  refine XS.icmpNo X0.here hx rfl (hb hby at_72) rfl (teq hd26).2 ?_
                  show Steps p.tables e below (s₁.setTop (mkF m 75 #[.val (.int p1), .val (.long p2), .second, .val (.int p3), .val (.long p4), .second, .val (.int p5), .val (.int (0 : Int32)), .val (.int (1 : Int32)), .val (.long p2), .second, .val (.int (p5 &&& (3 : Int32))), .unset, .unset, .unset, .unset, .unset, .unset, .unset, .unset] [])) _
                  refine XS.lload X0.here hx rfl (hb hby at_75) rfl ?_
                  show Steps p.tables e below (s₁.setTop (mkF m 77 #[.val (.int p1), .val (.long p2), .second, .val (.int p3), .val (.long p4), .second, .val (.int p5), .val (.int (0 : Int32)), .val (.int (1 : Int32)), .val (.long p2), .second, .val (.int (p5 &&& (3 : Int32))), .unset, .unset, .unset, .unset, .unset, .unset, .unset, .unset] [(.long p2)])) _
                  refine XS.lconst X0.here hx rfl (hb hby at_77) ?_
                  show Steps p.tables e below (s₁.setTop (mkF m 78 #[.val (.int p1), .val (.long p2), .second, .val (.int p3), .val (.long p4), .second, .val (.int p5), .val (.int (0 : Int32)), .val (.int (1 : Int32)), .val (.long p2), .second, .val (.int (p5 &&& (3 : Int32))), .unset, .unset, .unset, .unset, .unset, .unset, .unset, .unset] [(.long (1 : Int64)), (.long p2)])) _
                  refine XS.iload X0.here hx rfl (hb hby at_78) rfl ?_
                  show Steps p.tables e below (s₁.setTop (mkF m 80 #[.val (.int p1), .val (.long p2), .second, .val (.int p3), .val (.long p4), .second, .val (.int p5), .val (.int (0 : Int32)), .val (.int (1 : Int32)), .val (.long p2), .second, .val (.int (p5 &&& (3 : Int32))), .unset, .unset, .unset, .unset, .unset, .unset, .unset, .unset] [(.int p5), (.long (1 : Int64)), (.long p2)])) _
                  refine XS.iconst X0.here hx rfl (hb hby at_80) ?_
                  show Steps p.tables e below (s₁.setTop (mkF m 81 #[.val (.int p1), .val (.long p2), .second, .val (.int p3), .val (.long p4), .second, .val (.int p5), .val (.int (0 : Int32)), .val (.int (1 : Int32)), .val (.long p2), .second, .val (.int (p5 &&& (3 : Int32))), .unset, .unset, .unset, .unset, .unset, .unset, .unset, .unset] [(.int (2 : Int32)), (.int p5), (.long (1 : Int64)), (.long p2)])) _
                  refine XS.iushr X0.here hx rfl (hb hby at_81) rfl ?_
                  show Steps p.tables e below (s₁.setTop (mkF m 82 #[.val (.int p1), .val (.long p2), .second, .val (.int p3), .val (.long p4), .second, .val (.int p5), .val (.int (0 : Int32)), .val (.int (1 : Int32)), .val (.long p2), .second, .val (.int (p5 &&& (3 : Int32))), .unset, .unset, .unset, .unset, .unset, .unset, .unset, .unset] [(.int ((p5.toUInt32 >>> ((2 : Int32) &&& 31).toUInt32).toInt32)), (.long (1 : Int64)), (.long p2)])) _
                  refine XS.bipush X0.here hx rfl (hb hby at_82) ?_
                  show Steps p.tables e below (s₁.setTop (mkF m 84 #[.val (.int p1), .val (.long p2), .second, .val (.int p3), .val (.long p4), .second, .val (.int p5), .val (.int (0 : Int32)), .val (.int (1 : Int32)), .val (.long p2), .second, .val (.int (p5 &&& (3 : Int32))), .unset, .unset, .unset, .unset, .unset, .unset, .unset, .unset] [(.int (63 : Int32)), (.int ((p5.toUInt32 >>> ((2 : Int32) &&& 31).toUInt32).toInt32)), (.long (1 : Int64)), (.long p2)])) _
                  refine XS.iand X0.here hx rfl (hb hby at_84) rfl ?_
                  show Steps p.tables e below (s₁.setTop (mkF m 85 #[.val (.int p1), .val (.long p2), .second, .val (.int p3), .val (.long p4), .second, .val (.int p5), .val (.int (0 : Int32)), .val (.int (1 : Int32)), .val (.long p2), .second, .val (.int (p5 &&& (3 : Int32))), .unset, .unset, .unset, .unset, .unset, .unset, .unset, .unset] [(.int (((p5.toUInt32 >>> ((2 : Int32) &&& 31).toUInt32).toInt32) &&& (63 : Int32))), (.long (1 : Int64)), (.long p2)])) _
                  refine XS.lshl X0.here hx rfl (hb hby at_85) rfl ?_
                  show Steps p.tables e below (s₁.setTop (mkF m 86 #[.val (.int p1), .val (.long p2), .second, .val (.int p3), .val (.long p4), .second, .val (.int p5), .val (.int (0 : Int32)), .val (.int (1 : Int32)), .val (.long p2), .second, .val (.int (p5 &&& (3 : Int32))), .unset, .unset, .unset, .unset, .unset, .unset, .unset, .unset] [(.long ((1 : Int64) <<< ((((p5.toUInt32 >>> ((2 : Int32) &&& 31).toUInt32).toInt32) &&& (63 : Int32)) &&& 0x3f).toInt64)), (.long p2)])) _
                  refine XS.lxor X0.here hx rfl (hb hby at_86) rfl ?_
                  show Steps p.tables e below (s₁.setTop (mkF m 87 #[.val (.int p1), .val (.long p2), .second, .val (.int p3), .val (.long p4), .second, .val (.int p5), .val (.int (0 : Int32)), .val (.int (1 : Int32)), .val (.long p2), .second, .val (.int (p5 &&& (3 : Int32))), .unset, .unset, .unset, .unset, .unset, .unset, .unset, .unset] [(.long (p2 ^^^ ((1 : Int64) <<< ((((p5.toUInt32 >>> ((2 : Int32) &&& 31).toUInt32).toInt32) &&& (63 : Int32)) &&& 0x3f).toInt64)))])) _
                  refine XS.lstore X0.here hx rfl (hb hby at_87) rfl (l' := #[.val (.int p1), .val (.long p2), .second, .val (.int p3), .val (.long p4), .second, .val (.int p5), .val (.int (0 : Int32)), .val (.int (1 : Int32)), .val (.long p2), .second, .val (.int (p5 &&& (3 : Int32))), .val (.long (p2 ^^^ ((1 : Int64) <<< ((((p5.toUInt32 >>> ((2 : Int32) &&& 31).toUInt32).toInt32) &&& (63 : Int32)) &&& 0x3f).toInt64))), .second, .unset, .unset, .unset, .unset, .unset, .unset]) rfl ?_
                  show Steps p.tables e below (s₁.setTop (mkF m 89 #[.val (.int p1), .val (.long p2), .second, .val (.int p3), .val (.long p4), .second, .val (.int p5), .val (.int (0 : Int32)), .val (.int (1 : Int32)), .val (.long p2), .second, .val (.int (p5 &&& (3 : Int32))), .val (.long (p2 ^^^ ((1 : Int64) <<< ((((p5.toUInt32 >>> ((2 : Int32) &&& 31).toUInt32).toInt32) &&& (63 : Int32)) &&& 0x3f).toInt64))), .second, .unset, .unset, .unset, .unset, .unset, .unset] [])) _
                  refine XS.goto X0.here hx rfl (pc0 := 89) (pc' := 100) rfl (hb hby at_89) (by decide) (by decide) ?_
                  show Steps p.tables e below (s₁.setTop (mkF m 100 #[.val (.int p1), .val (.long p2), .second, .val (.int p3), .val (.long p4), .second, .val (.int p5), .val (.int (0 : Int32)), .val (.int (1 : Int32)), .val (.long p2), .second, .val (.int (p5 &&& (3 : Int32))), .val (.long (p2 ^^^ ((1 : Int64) <<< ((((p5.toUInt32 >>> ((2 : Int32) &&& 31).toUInt32).toInt32) &&& (63 : Int32)) &&& 0x3f).toInt64))), .second, .unset, .unset, .unset, .unset, .unset, .unset] [])) _
                  exact k
                · skip
                  rw [(if_neg hd26 : (if (p5 &&& (3 : Int32)) = (2 : Int32) then (p2 ^^^ ((1 : Int64) <<< ((((p5.toUInt32 >>> ((2 : Int32) &&& 31).toUInt32).toInt32) &&& (63 : Int32)) &&& 0x3f).toInt64)) else (p2 ^^^ (-1 : Int64))) = (p2 ^^^ (-1 : Int64)))] at k
                  show Steps p.tables e below (s₁.setTop (mkF m 72 #[.val (.int p1), .val (.long p2), .second, .val (.int p3), .val (.long p4), .second, .val (.int p5), .val (.int (0 : Int32)), .val (.int (1 : Int32)), .val (.long p2), .second, .val (.int (p5 &&& (3 : Int32))), .unset, .unset, .unset, .unset, .unset, .unset, .unset, .unset] [(.int (2 : Int32)), (.int (p5 &&& (3 : Int32)))])) _
                  refine XS.icmpYes X0.here hx rfl (pc0 := 72) (pc' := 92) rfl (hb hby at_72) rfl (feq hd26).2 (by decide) (by decide) ?_
                  show Steps p.tables e below (s₁.setTop (mkF m 92 #[.val (.int p1), .val (.long p2), .second, .val (.int p3), .val (.long p4), .second, .val (.int p5), .val (.int (0 : Int32)), .val (.int (1 : Int32)), .val (.long p2), .second, .val (.int (p5 &&& (3 : Int32))), .unset, .unset, .unset, .unset, .unset, .unset, .unset, .unset] [])) _
                  refine XS.lload X0.here hx rfl (hb hby at_92) rfl ?_
                  show Steps p.tables e below (s₁.setTop (mkF m 94 #[.val (.int p1), .val (.long p2), .second, .val (.int p3), .val (.long p4), .second, .val (.int p5), .val (.int (0 : Int32)), .val (.int (1 : Int32)), .val (.long p2), .second, .val (.int (p5 &&& (3 : Int32))), .unset, .unset, .unset, .unset, .unset, .unset, .unset, .unset] [(.long p2)])) _
                  refine X0.ldc2Long hx hown (mvT hZ (hw _ (List.mem_of_getElem? (i := 25) rfl))) (g := (mkF m 94 #[.val (.int p1), .val (.long p2), .second, .val (.int p3), .val (.long p4), .second, .val (.int p5), .val (.int (0 : Int32)), .val (.int (1 : Int32)), .val (.long p2), .second, .val (.int (p5 &&& (3 : Int32))), .unset, .unset, .unset, .unset, .unset, .unset, .unset, .unset] [(.long p2)])) rfl (hb hby at_94) _ ?_
                  show Steps p.tables e below (s₁.setTop (mkF m 97 #[.val (.int p1), .val (.long p2), .second, .val (.int p3), .val (.long p4), .second, .val (.int p5), .val (.int (0 : Int32)), .val (.int (1 : Int32)), .val (.long p2), .second, .val (.int (p5 &&& (3 : Int32))), .unset, .unset, .unset, .unset, .unset, .unset, .unset, .unset] [(.long (-1 : Int64)), (.long p2)])) _
                  refine XS.lxor X0.here hx rfl (hb hby at_97) rfl ?_
                  show Steps p.tables e below (s₁.setTop (mkF m 98 #[.val (.int p1), .val (.long p2), .second, .val (.int p3), .val (.long p4), .second, .val (.int p5), .val (.int (0 : Int32)), .val (.int (1 : Int32)), .val (.long p2), .second, .val (.int (p5 &&& (3 : Int32))), .unset, .unset, .unset, .unset, .unset, .unset, .unset, .unset] [(.long (p2 ^^^ (-1 : Int64)))])) _
                  refine XS.lstore X0.here hx rfl (hb hby at_98) rfl (l' := #[.val (.int p1), .val (.long p2), .second, .val (.int p3), .val (.long p4), .second, .val (.int p5), .val (.int (0 : Int32)), .val (.int (1 : Int32)), .val (.long p2), .second, .val (.int (p5 &&& (3 : Int32))), .val (.long (p2 ^^^ (-1 : Int64))), .second, .unset, .unset, .unset, .unset, .unset, .unset]) rfl ?_
                  show Steps p.tables e below (s₁.setTop (mkF m 100 #[.val (.int p1), .val (.long p2), .second, .val (.int p3), .val (.long p4), .second, .val (.int p5), .val (.int (0 : Int32)), .val (.int (1 : Int32)), .val (.long p2), .second, .val (.int (p5 &&& (3 : Int32))), .val (.long (p2 ^^^ (-1 : Int64))), .second, .unset, .unset, .unset, .unset, .unset, .unset] [])) _
                  exact k
              show Steps p.tables e below (s₁.setTop (mkF m 100 #[.val (.int p1), .val (.long p2), .second, .val (.int p3), .val (.long p4), .second, .val (.int p5), .val (.int (0 : Int32)), .val (.int (1 : Int32)), .val (.long p2), .second, .val (.int (p5 &&& (3 : Int32))), .val (.long (if (p5 &&& (3 : Int32)) = (2 : Int32) then (p2 ^^^ ((1 : Int64) <<< ((((p5.toUInt32 >>> ((2 : Int32) &&& 31).toUInt32).toInt32) &&& (63 : Int32)) &&& 0x3f).toInt64)) else (p2 ^^^ (-1 : Int64)))), .second, .unset, .unset, .unset, .unset, .unset, .unset] [])) _
              exact k
          show Steps p.tables e below (s₁.setTop (mkF m 100 #[.val (.int p1), .val (.long p2), .second, .val (.int p3), .val (.long p4), .second, .val (.int p5), .val (.int (0 : Int32)), .val (.int (1 : Int32)), .val (.long p2), .second, .val (.int (p5 &&& (3 : Int32))), .val (.long (if (p5 &&& (3 : Int32)) = (1 : Int32) then p2 else (if (p5 &&& (3 : Int32)) = (2 : Int32) then (p2 ^^^ ((1 : Int64) <<< ((((p5.toUInt32 >>> ((2 : Int32) &&& 31).toUInt32).toInt32) &&& (63 : Int32)) &&& 0x3f).toInt64)) else (p2 ^^^ (-1 : Int64))))), .second, .unset, .unset, .unset, .unset, .unset, .unset] [])) _
          exact k
      show Go p.tables e below s₁ (mkF m 100 #[.val (.int p1), .val (.long p2), .second, .val (.int p3), .val (.long p4), .second, .val (.int p5), .val (.int (0 : Int32)), .val (.int (1 : Int32)), .val (.long p2), .second, .val (.int (p5 &&& (3 : Int32))), .val (.long (if (p5 &&& (3 : Int32)) = (0 : Int32) then p4 else (if (p5 &&& (3 : Int32)) = (1 : Int32) then p2 else (if (p5 &&& (3 : Int32)) = (2 : Int32) then (p2 ^^^ ((1 : Int64) <<< ((((p5.toUInt32 >>> ((2 : Int32) &&& 31).toUInt32).toInt32) &&& (63 : Int32)) &&& 0x3f).toInt64)) else (p2 ^^^ (-1 : Int64)))))), .second, .unset, .unset, .unset, .unset, .unset, .unset] []) _
      obtain ⟨z27, hz27⟩ : ∃ z : Int64, z = (if (p5 &&& (3 : Int32)) = (0 : Int32) then p4 else (if (p5 &&& (3 : Int32)) = (1 : Int32) then p2 else (if (p5 &&& (3 : Int32)) = (2 : Int32) then (p2 ^^^ ((1 : Int64) <<< ((((p5.toUInt32 >>> ((2 : Int32) &&& 31).toUInt32).toInt32) &&& (63 : Int32)) &&& 0x3f).toInt64)) else (p2 ^^^ (-1 : Int64))))) := ⟨_, rfl⟩
      rw [← hz27]
      show Go p.tables e below s₁ (mkF m 100 #[.val (.int p1), .val (.long p2), .second, .val (.int p3), .val (.long p4), .second, .val (.int p5), .val (.int (0 : Int32)), .val (.int (1 : Int32)), .val (.long p2), .second, .val (.int (p5 &&& (3 : Int32))), .val (.long z27), .second, .unset, .unset, .unset, .unset, .unset, .unset] []) _
      refine go1 (fun _ => XS.iload X0.here hx rfl (hb hby at_100) rfl) ?_
      show Go p.tables e below s₁ (mkF m 102 #[.val (.int p1), .val (.long p2), .second, .val (.int p3), .val (.long p4), .second, .val (.int p5), .val (.int (0 : Int32)), .val (.int (1 : Int32)), .val (.long p2), .second, .val (.int (p5 &&& (3 : Int32))), .val (.long z27), .second, .unset, .unset, .unset, .unset, .unset, .unset] [(.int (1 : Int32))]) _
      refine go1 (fun _ => XS.ifNo X0.here hx rfl (hb hby at_102) rfl ((if0 _ _).trans (feq (by decide : ¬ ((1 : Int32) = (0 : Int32)))).1)) ?_
      show Go p.tables e below s₁ (mkF m 105 #[.val (.int p1), .val (.long p2), .second, .val (.int p3), .val (.long p4), .second, .val (.int p5), .val (.int (0 : Int32)), .val (.int (1 : Int32)), .val (.long p2), .second, .val (.int (p5 &&& (3 : Int32))), .val (.long z27), .second, .unset, .unset, .unset, .unset, .unset, .unset] []) _
      refine go1 (fun _ => XS.lconst X0.here hx rfl (hb hby at_105)) ?_
      show Go p.tables e below s₁ (mkF m 106 #[.val (.int p1), .val (.long p2), .second, .val (.int p3), .val (.long p4), .second, .val (.int p5), .val (.int (0 : Int32)), .val (.int (1 : Int32)), .val (.long p2), .second, .val (.int (p5 &&& (3 : Int32))), .val (.long z27), .second, .unset, .unset, .unset, .unset, .unset, .unset] [(.long (0 : Int64))]) _
      refine go1 (fun _ => XS.goto X0.here hx rfl (pc0 := 106) (pc' := 111) rfl (hb hby at_106) (by decide) (by decide)) ?_
      show Go p.tables e below s₁ (mkF m 111 #[.val (.int p1), .val (.long p2), .second, .val (.int p3), .val (.long p4), .second, .val (.int p5), .val (.int (0 : Int32)), .val (.int (1 : Int32)), .val (.long p2), .second, .val (.int (p5 &&& (3 : Int32))), .val (.long z27), .second, .unset, .unset, .unset, .unset, .unset, .unset] [(.long (0 : Int64))]) _
      refine go1 (fun _ => XS.lstore X0.here hx rfl (hb hby at_111) rfl (l' := #[.val (.int p1), .val (.long p2), .second, .val (.int p3), .val (.long p4), .second, .val (.int p5), .val (.int (0 : Int32)), .val (.int (1 : Int32)), .val (.long p2), .second, .val (.int (p5 &&& (3 : Int32))), .val (.long z27), .second, .val (.long (0 : Int64)), .second, .unset, .unset, .unset, .unset]) rfl) ?_
      show Go p.tables e below s₁ (mkF m 113 #[.val (.int p1), .val (.long p2), .second, .val (.int p3), .val (.long p4), .second, .val (.int p5), .val (.int (0 : Int32)), .val (.int (1 : Int32)), .val (.long p2), .second, .val (.int (p5 &&& (3 : Int32))), .val (.long z27), .second, .val (.long (0 : Int64)), .second, .unset, .unset, .unset, .unset] []) _
      obtain ⟨T28, h28, X28, e28, E28, A28, D28, -, st28⟩ := newO X0 hx hZ hown (hw _ (List.mem_of_getElem? (i := 0) rfl)) (hw _ (List.mem_of_getElem? (i := 1) rfl)) (hw _ (List.mem_of_getElem? (i := 2) rfl)) e0 (g := (mkF m 113 #[.val (.int p1), .val (.long p2), .second, .val (.int p3), .val (.long p4), .second, .val (.int p5), .val (.int (0 : Int32)), .val (.int (1 : Int32)), .val (.long p2), .second, .val (.int (p5 &&& (3 : Int32))), .val (.long z27), .second, .val (.long (0 : Int64)), .second, .unset, .unset, .unset, .unset] [])) rfl (hb hby at_113) (by decide) (by decide)
      obtain ⟨b28, g28⟩ : ∃ z, z = h0.size := ⟨_, rfl⟩
      rw [← g28] at A28 D28 st28
      have g_b28 : n0 ≤ b28 := Nat.le_trans Z0 (Nat.le_of_eq g28.symm)
      have F_isDefault_b28 : Fld Z h28 b28 "com/example/stubwright/stubwright/idl/UnionType$Label" "isDefault" "Z" (.int (0 : Int32)) := D28 (Or.inr (hw _ (List.mem_of_getElem? (i := 15) rfl))) (ty := .boolean) (by decide)
      have F_value_b28 : Fld Z h28 b28 "com/example/stubwright/stubwright/idl/UnionType$Label" "value" "J" (.long (0 : Int64)) := D28 (Or.inr (hw _ (List.mem_of_getElem? (i := 17) rfl))) (ty := .long) (by decide)
      refine go1 st28 ?_
      show Go p.tables e below T28 (mkF m 116 #[.val (.int p1), .val (.long p2), .second, .val (.int p3), .val (.long p4), .second, .val (.int p5), .val (.int (0 : Int32)), .val (.int (1 : Int32)), .val (.long p2), .second, .val (.int (p5 &&& (3 : Int32))), .val (.long z27), .second, .val (.long (0 : Int64)), .second, .unset, .unset, .unset, .unset] [(.ref b28)]) _
      refine go1 (fun _ => XS.dup X28.here hx rfl (hb hby at_116) rfl rfl) ?_
      show Go p.tables e below T28 (mkF m 117 #[.val (.int p1), .val (.long p2), .second, .val (.int p3), .val (.long p4), .second, .val (.int p5), .val (.int (0 : Int32)), .val (.int (1 : Int32)), .val (.long p2), .second, .val (.int (p5 &&& (3 : Int32))), .val (.long z27), .second, .val (.long (0 : Int64)), .second, .unset, .unset, .unset, .unset] [(.ref b28), (.ref b28)]) _
      refine go1 (fun _ => XS.iload X28.here hx rfl (hb hby at_117) rfl) ?_
      show Go p.tables e below T28 (mkF m 119 #[.val (.int p1), .val (.long p2), .second, .val (.int p3), .val (.long p4), .second, .val (.int p5), .val (.int (0 : Int32)), .val (.int (1 : Int32)), .val (.long p2), .second, .val (.int (p5 &&& (3 : Int32))), .val (.long z27), .second, .val (.long (0 : Int64)), .second, .unset, .unset, .unset, .unset] [(.int (0 : Int32)), (.ref b28), (.ref b28)]) _
      refine go1 (fun _ => XS.lload X28.here hx rfl (hb hby at_119) rfl) ?_
      show Go p.tables e below T28 (mkF m 121 #[.val (.int p1), .val (.long p2), .second, .val (.int p3), .val (.long p4), .second, .val (.int p5), .val (.int (0 : Int32)), .val (.int (1 : Int32)), .val (.long p2), .second, .val (.int (p5 &&& (3 : Int32))), .val (.long z27), .second, .val (.long (0 : Int64)), .second, .unset, .unset, .unset, .unset] [(.long p2), (.int (0 : Int32)), (.ref b28), (.ref b28)]) _
      obtain ⟨_, _, ⟨T29, L29, k29, n29⟩, -, X29, ⟨Lc29, hQ29, l29, y29, z29⟩, st29⟩ := X28.specialBack hx (y := (⟨"com/example/stubwright/stubwright/idl/UnionType$Label", "<init>", "(ZJ)V"⟩ : MethodName)) rfl hown (mvT hZ (hw _ (List.mem_of_getElem? (i := 3) rfl))) (mvT hZ (hw _ (List.mem_of_getElem? (i := 4) rfl))) (mvT hZ (hw _ (List.mem_of_getElem? (i := 5) rfl))) (by decide) (backOf (W := 1) (rm1a l Z a0 hw [] b28 p2 h28 n0 (Nat.le_trans Z0 E28.1) F_isDefault_b28 F_value_b28 A28 g_b28) hZ (hw _ (List.mem_of_getElem? (i := 5) rfl)) (hw _ (List.mem_of_getElem? (i := 2) rfl)) (by decide) (by decide)) (g := (mkF m 121 #[.val (.int p1), .val (.long p2), .second, .val (.int p3), .val (.long p4), .second, .val (.int p5), .val (.int (0 : Int32)), .val (.int (1 : Int32)), .val (.long p2), .second, .val (.int (p5 &&& (3 : Int32))), .val (.long z27), .second, .val (.long (0 : Int64)), .second, .unset, .unset, .unset, .unset] [(.long p2), (.int (0 : Int32)), (.ref b28), (.ref b28)])) rfl (by rw [hml]; rfl) (Steps.refl _) (a := b28) (argsL := [(.int (0 : Int32)), (.long p2)]) (rest := [(.ref b28)]) (lenOf pd0_0 rfl) rfl (by show 2 * 0 + _ ≤ _; exact Nat.le_of_eq rfl) (hb hby at_121) (fun _ _ => ⟨rfl, e28, (by decide : 1 + 0 ≤ _), (by decide : 2 + 0 ≤ _)⟩)
      dsimp only [Pt.U, Pt.locs, Pt.cells, Pt.slots] at X29 l29 y29 z29 st29 hQ29
      subst l29 y29 z29
      obtain ⟨rfl, N29q, K29, G29_0, G29_1, G29_2⟩ := hQ29
      have N29 := Fr.app N0 N29q
      refine goT st29 ?_
      show Go p.tables e below T29 (mkF m 124 #[.val (.int p1), .val (.long p2), .second, .val (.int p3), .val (.long p4), .second, .val (.int p5), .val (.int (0 : Int32)), .val (.int (1 : Int32)), .val (.long p2), .second, .val (.int (p5 &&& (3 : Int32))), .val (.long z27), .second, .val (.long (0 : Int64)), .second, .unset, .unset, .unset, .unset] [(.ref b28)]) _
      refine go1 (fun _ => XS.astore X29.here hx rfl (hb hby at_124) rfl rfl (l' := #[.val (.int p1), .val (.long p2), .second, .val (.int p3), .val (.long p4), .second, .val (.int p5), .val (.int (0 : Int32)), .val (.int (1 : Int32)), .val (.long p2), .second, .val (.int (p5 &&& (3 : Int32))), .val (.long z27), .second, .val (.long (0 : Int64)), .second, .val (.ref b28), .unset, .unset, .unset]) rfl) ?_
      show Go p.tables e below T29 (mkF m 126 #[.val (.int p1), .val (.long p2), .second, .val (.int p3), .val (.long p4), .second, .val (.int p5), .val (.int (0 : Int32)), .val (.int (1 : Int32)), .val (.long p2), .second, .val (.int (p5 &&& (3 : Int32))), .val (.long z27), .second, .val (.long (0 : Int64)), .second, .val (.ref b28), .unset, .unset, .unset] []) _
      obtain ⟨T30, h30, X30, e30, E30, A30, D30, -, st30⟩ := newO X29 hx hZ hown (hw _ (List.mem_of_getElem? (i := 0) rfl)) (hw _ (List.mem_of_getElem? (i := 1) rfl)) (hw _ (List.mem_of_getElem? (i := 2) rfl)) rfl (g := (mkF m 126 #[.val (.int p1), .val (.long p2), .second, .val (.int p3), .val (.long p4), .second, .val (.int p5), .val (.int (0 : Int32)), .val (.int (1 : Int32)), .val (.long p2), .second, .val (.int (p5 &&& (3 : Int32))), .val (.long z27), .second, .val (.long (0 : Int64)), .second, .val (.ref b28), .unset, .unset, .unset] [])) rfl (hb hby at_126) (by decide) (by decide)
      obtain ⟨b30, g30⟩ : ∃ z, z = T29.heap.size := ⟨_, rfl⟩
      rw [← g30] at A30 D30 st30
      have g_b30 : n0 ≤ b30 := Nat.le_trans (Nat.le_trans (Nat.le_trans Z0 E28.1) K29.1) (Nat.le_of_eq g30.symm)
      have F_isDefault_b30 : Fld Z h30 b30 "com/example/stubwright/stubwright/idl/UnionType$Label" "isDefault" "Z" (.int (0 : Int32)) := D30 (Or.inr (hw _ (List.mem_of_getElem? (i := 15) rfl))) (ty := .boolean) (by decide)
      have F_value_b30 : Fld Z h30 b30 "com/example/stubwright/stubwright/idl/UnionType$Label" "value" "J" (.long (0 : Int64)) := D30 (Or.inr (hw _ (List.mem_of_getElem? (i := 17) rfl))) (ty := .long) (by decide)
      refine go1 st30 ?_
      show Go p.tables e below T30 (mkF m 129 #[.val (.int p1), .val (.long p2), .second, .val (.int p3), .val (.long p4), .second, .val (.int p5), .val (.int (0 : Int32)), .val (.int (1 : Int32)), .val (.long p2), .second, .val (.int (p5 &&& (3 : Int32))), .val (.long z27), .second, .val (.long (0 : Int64)), .second, .val (.ref b28), .unset, .unset, .unset] [(.ref b30)]) _
      refine go1 (fun _ => XS.dup X30.here hx rfl (hb hby at_129) rfl rfl) ?_
      show Go p.tables e below T30 (mkF m 130 #[.val (.int p1), .val (.long p2), .second, .val (.int p3), .val (.long p4), .second, .val (.int p5), .val (.int (0 : Int32)), .val (.int (1 : Int32)), .val (.long p2), .second, .val (.int (p5 &&& (3 : Int32))), .val (.long z27), .second, .val (.long (0 : Int64)), .second, .val (.ref b28), .unset, .unset, .unset] [(.ref b30), (.ref b30)]) _
      refine go1 (fun _ => XS.iload X30.here hx rfl (hb hby at_130) rfl) ?_
      show Go p.tables e below T30 (mkF m 132 #[.val (.int p1), .val (.long p2), .second, .val (.int p3), .val (.long p4), .second, .val (.int p5), .val (.int (0 : Int32)), .val (.int (1 : Int32)), .val (.long p2), .second, .val (.int (p5 &&& (3 : Int32))), .val (.long z27), .second, .val (.long (0 : Int64)), .second, .val (.ref b28), .unset, .unset, .unset] [(.int (1 : Int32)), (.ref b30), (.ref b30)]) _
      refine go1 (fun _ => XS.lload X30.here hx rfl (hb hby at_132) rfl) ?_
      show Go p.tables e below T30 (mkF m 134 #[.val (.int p1), .val (.long p2), .second, .val (.int p3), .val (.long p4), .second, .val (.int p5), .val (.int (0 : Int32)), .val (.int (1 : Int32)), .val (.long p2), .second, .val (.int (p5 &&& (3 : Int32))), .val (.long z27), .second, .val (.long (0 : Int64)), .second, .val (.ref b28), .unset, .unset, .unset] [(.long (0 : Int64)), (.int (1 : Int32)), (.ref b30), (.ref b30)]) _
      obtain ⟨_, _, ⟨T31, L31, k31, n31⟩, -, X31, ⟨Lc31, hQ31, l31, y31, z31⟩, st31⟩ := X30.specialBack hx (y := (⟨"com/example/stubwright/stubwright/idl/UnionType$Label", "<init>", "(ZJ)V"⟩ : MethodName)) rfl hown (mvT hZ (hw _ (List.mem_of_getElem? (i := 3) rfl))) (mvT hZ (hw _ (List.mem_of_getElem? (i := 4) rfl))) (mvT hZ (hw _ (List.mem_of_getElem? (i := 5) rfl))) (by decide) (backOf (W := 1) (rm1b l Z a0 hw [] b30 h30 n0 (Nat.le_trans (Nat.le_trans (Nat.le_trans Z0 E28.1) K29.1) E30.1) F_isDefault_b30 F_value_b30 A30 g_b30) hZ (hw _ (List.mem_of_getElem? (i := 5) rfl)) (hw _ (List.mem_of_getElem? (i := 2) rfl)) (by decide) (by decide)) (g := (mkF m 134 #[.val (.int p1), .val (.long p2), .second, .val (.int p3), .val (.long p4), .second, .val (.int p5), .val (.int (0 : Int32)), .val (.int (1 : Int32)), .val (.long p2), .second, .val (.int (p5 &&& (3 : Int32))), .val (.long z27), .second, .val (.long (0 : Int64)), .second, .val (.ref b28), .unset, .unset, .unset] [(.long (0 : Int64)), (.int (1 : Int32)), (.ref b30), (.ref b30)])) rfl (by rw [hml]; rfl) (Steps.refl _) (a := b30) (argsL := [(.int (1 : Int32)), (.long (0 : Int64))]) (rest := [(.ref b30)]) (lenOf pd0_0 rfl) rfl (by show 2 * 0 + _ ≤ _; exact Nat.le_of_eq rfl) (hb hby at_134) (fun _ _ => ⟨rfl, e30, (by decide : 2 + 0 ≤ _), (by decide : 4 + 0 ≤ _)⟩)
      dsimp only [Pt.U, Pt.locs, Pt.cells, Pt.slots] at X31 l31 y31 z31 st31 hQ31
      subst l31 y31 z31
      obtain ⟨rfl, N31q, K31, G31_0, G31_1, G31_2⟩ := hQ31
      have N31 := Fr.app N29 N31q
      refine goT st31 ?_
      show Go p.tables e below T31 (mkF m 137 #[.val (.int p1), .val (.long p2), .second, .val (.int p3), .val (.long p4), .second, .val (.int p5), .val (.int (0 : Int32)), .val (.int (1 : Int32)), .val (.long p2), .second, .val (.int (p5 &&& (3 : Int32))), .val (.long z27), .second, .val (.long (0 : Int64)), .second, .val (.ref b28), .unset, .unset, .unset] [(.ref b30)]) _
      refine go1 (fun _ => XS.astore X31.here hx rfl (hb hby at_137) rfl rfl (l' := #[.val (.int p1), .val (.long p2), .second, .val (.int p3), .val (.long p4), .second, .val (.int p5), .val (.int (0 : Int32)), .val (.int (1 : Int32)), .val (.long p2), .second, .val (.int (p5 &&& (3 : Int32))), .val (.long z27), .second, .val (.long (0 : Int64)), .second, .val (.ref b28), .val (.ref b30), .unset, .unset]) rfl) ?_
      show Go p.tables e below T31 (mkF m 139 #[.val (.int p1), .val (.long p2), .second, .val (.int p3), .val (.long p4), .second, .val (.int p5), .val (.int (0 : Int32)), .val (.int (1 : Int32)), .val (.long p2), .second, .val (.int (p5 &&& (3 : Int32))), .val (.long z27), .second, .val (.long (0 : Int64)), .second, .val (.ref b28), .val (.ref b30), .unset, .unset] []) _
      refine go1 (fun _ => XS.iload X31.here hx rfl (hb hby at_139) rfl) ?_
      show Go p.tables e below T31 (mkF m 141 #[.val (.int p1), .val (.long p2), .second, .val (.int p3), .val (.long p4), .second, .val (.int p5), .val (.int (0 : Int32)), .val (.int (1 : Int32)), .val (.long p2), .second, .val (.int (p5 &&& (3 : Int32))), .val (.long z27), .second, .val (.long (0 : Int64)), .second, .val (.ref b28), .val (.ref b30), .unset, .unset] [(.int p5)]) _
      refine go1 (fun _ => XS.bipush X31.here hx rfl (hb hby at_141)) ?_
      show Go p.tables e below T31 (mkF m 143 #[.val (.int p1), .val (.long p2), .second, .val (.int p3), .val (.long p4), .second, .val (.int p5), .val (.int (0 : Int32)), .val (.int (1 : Int32)), .val (.long p2), .second, .val (.int (p5 &&& (3 : Int32))), .val (.long z27), .second, .val (.long (0 : Int64)), .second, .val (.ref b28), .val (.ref b30), .unset, .unset] [(.int (8 : Int32)), (.int p5)]) _
      refine go1 (fun _ => XS.iushr X31.here hx rfl (hb hby at_143) rfl) ?_
      show Go p.tables e below T31 (mkF m 144 #[.val (.int p1), .val (.long p2), .second, .val (.int p3), .val (.long p4), .second, .val (.int p5), .val (.int (0 : Int32)), .val (.int (1 : Int32)), .val (.long p2), .second, .val (.int (p5 &&& (3 : Int32))), .val (.long z27), .second, .val (.long (0 : Int64)), .second, .val (.ref b28), .val (.ref b30), .unset, .unset] [(.int ((p5.toUInt32 >>> ((8 : Int32) &&& 31).toUInt32).toInt32))]) _
      refine go1 (fun _ => XS.iconst X31.here hx rfl (hb hby at_144)) ?_
      show Go p.tables e below T31 (mkF m 145 #[.val (.int p1), .val (.long p2), .second, .val (.int p3), .val (.long p4), .second, .val (.int p5), .val (.int (0 : Int32)), .val (.int (1 : Int32)), .val (.long p2), .second, .val (.int (p5 &&& (3 : Int32))), .val (.long z27), .second, .val (.long (0 : Int64)), .second, .val (.ref b28), .val (.ref b30), .unset, .unset] [(.int (3 : Int32)), (.int ((p5.toUInt32 >>> ((8 : Int32) &&& 31).toUInt32).toInt32))]) _
      refine go1 (fun _ => XS.iand X31.here hx rfl (hb hby at_145) rfl) ?_
      show Go p.tables e below T31 (mkF m 146 #[.val (.int p1), .val (.long p2), .second, .val (.int p3), .val (.long p4), .second, .val (.int p5), .val (.int (0 : Int32)), .val (.int (1 : Int32)), .val (.long p2), .second, .val (.int (p5 &&& (3 : Int32))), .val (.long z27), .second, .val (.long (0 : Int64)), .second, .val (.ref b28), .val (.ref b30), .unset, .unset] [(.int (((p5.toUInt32 >>> ((8 : Int32) &&& 31).toUInt32).toInt32) &&& (3 : Int32)))]) _
      refine go1 (fun _ => XS.istore X31.here hx rfl (hb hby at_146) rfl (l' := #[.val (.int p1), .val (.long p2), .second, .val (.int p3), .val (.long p4), .second, .val (.int p5), .val (.int (0 : Int32)), .val (.int (1 : Int32)), .val (.long p2), .second, .val (.int (p5 &&& (3 : Int32))), .val (.long z27), .second, .val (.long (0 : Int64)), .second, .val (.ref b28), .val (.ref b30), .val (.int (((p5.toUInt32 >>> ((8 : Int32) &&& 31).toUInt32).toInt32) &&& (3 : Int32))), .unset]) rfl) ?_
      show Go p.tables e below T31 (mkF m 148 #[.val (.int p1), .val (.long p2), .second, .val (.int p3), .val (.long p4), .second, .val (.int p5), .val (.int (0 : Int32)), .val (.int (1 : Int32)), .val (.long p2), .second, .val (.int (p5 &&& (3 : Int32))), .val (.long z27), .second, .val (.long (0 : Int64)), .second, .val (.ref b28), .val (.ref b30), .val (.int (((p5.toUInt32 >>> ((8 : Int32) &&& 31).toUInt32).toInt32) &&& (3 : Int32))), .unset] []) _
      refine go1 (fun _ => XS.iload X31.here hx rfl (hb hby at_148) rfl) ?_
      show Go p.tables e below T31 (mkF m 150 #[.val (.int p1), .val (.long p2), .second, .val (.int p3), .val (.long p4), .second, .val (.int p5), .val (.int (0 : Int32)), .val (.int (1 : Int32)), .val (.long p2), .second, .val (.int (p5 &&& (3 : Int32))), .val (.long z27), .second, .val (.long (0 : Int64)), .second, .val (.ref b28), .val (.ref b30), .val (.int (((p5.toUInt32 >>> ((8 : Int32) &&& 31).toUInt32).toInt32) &&& (3 : Int32))), .unset] [(.int (((p5.toUInt32 >>> ((8 : Int32) &&& 31).toUInt32).toInt32) &&& (3 : Int32)))]) _
      by_cases hc32 : (((p5.toUInt32 >>> ((8 : Int32) &&& 31).toUInt32).toInt32) &&& (3 : Int32)) = (0 : Int32)
      · skip
        refine go1 (fun _ => XS.ifNo X31.here hx rfl (hb hby at_150) rfl ((if0 _ _).trans (teq hc32).2)) ?_
        show Go p.tables e below T31 (mkF m 153 #[.val (.int p1), .val (.long p2), .second, .val (.int p3), .val (.long p4), .second, .val (.int p5), .val (.int (0 : Int32)), .val (.int (1 : Int32)), .val (.long p2), .second, .val (.int (p5 &&& (3 : Int32))), .val (.long z27), .second, .val (.long (0 : Int64)), .second, .val (.ref b28), .val (.ref b30), .val (.int (((p5.toUInt32 >>> ((8 : Int32) &&& 31).toUInt32).toInt32) &&& (3 : Int32))), .unset] []) _
        refine go1 (fun _ => XS.iload X31.here hx rfl (hb hby at_153) rfl) ?_
        show Go p.tables e below T31 (mkF m 155 #[.val (.int p1), .val (.long p2), .second, .val (.int p3), .val (.long p4), .second, .val (.int p5), .val (.int (0 : Int32)), .val (.int (1 : Int32)), .val (.long p2), .second, .val (.int (p5 &&& (3 : Int32))), .val (.long z27), .second, .val (.long (0 : Int64)), .second, .val (.ref b28), .val (.ref b30), .val (.int (((p5.toUInt32 >>> ((8 : Int32) &&& 31).toUInt32).toInt32) &&& (3 : Int32))), .unset] [(.int (0 : Int32))]) _
        refine go1 (fun _ => XS.iload X31.here hx rfl (hb hby at_155) rfl) ?_
        show Go p.tables e below T31 (mkF m 157 #[.val (.int p1), .val (.long p2), .second, .val (.int p3), .val (.long p4), .second, .val (.int p5), .val (.int (0 : Int32)), .val (.int (1 : Int32)), .val (.long p2), .second, .val (.int (p5 &&& (3 : Int32))), .val (.long z27), .second, .val (.long (0 : Int64)), .second, .val (.ref b28), .val (.ref b30), .val (.int (((p5.toUInt32 >>> ((8 : Int32) &&& 31).toUInt32).toInt32) &&& (3 : Int32))), .unset] [(.int (1 : Int32)), (.int (0 : Int32))]) _
        refine go1 (fun _ => XS.icmpYes X31.here hx rfl (pc0 := 157) (pc' := 172) rfl (hb hby at_157) rfl (feq (by decide : ¬ ((0 : Int32) = (1 : Int32)))).2 (by decide) (by decide)) ?_
        show Go p.tables e below T31 (mkF m 172 #[.val (.int p1), .val (.long p2), .second, .val (.int p3), .val (.long p4), .second, .val (.int p5), .val (.int (0 : Int32)), .val (.int (1 : Int32)), .val (.long p2), .second, .val (.int (p5 &&& (3 : Int32))), .val (.long z27), .second, .val (.long (0 : Int64)), .second, .val (.ref b28), .val (.ref b30), .val (.int (((p5.toUInt32 >>> ((8 : Int32) &&& 31).toUInt32).toInt32) &&& (3 : Int32))), .unset] []) _
        refine go1 (fun _ => XS.iconst X31.here hx rfl (hb hby at_172)) ?_
        show Go p.tables e below T31 (mkF m 173 #[.val (.int p1), .val (.long p2), .second, .val (.int p3), .val (.long p4), .second, .val (.int p5), .val (.int (0 : Int32)), .val (.int (1 : Int32)), .val (.long p2), .second, .val (.int (p5 &&& (3 : Int32))), .val (.long z27), .second, .val (.long (0 : Int64)), .second, .val (.ref b28), .val (.ref b30), .val (.int (((p5.toUInt32 >>> ((8 : Int32) &&& 31).toUInt32).toInt32) &&& (3 : Int32))), .unset] [(.int (0 : Int32))]) _
        refine go1 (fun _ => XS.istore X31.here hx rfl (hb hby at_173) rfl (l' := #[.val (.int p1), .val (.long p2), .second, .val (.int p3), .val (.long p4), .second, .val (.int p5), .val (.int (0 : Int32)), .val (.int (1 : Int32)), .val (.long p2), .second, .val (.int (p5 &&& (3 : Int32))), .val (.long z27), .second, .val (.long (0 : Int64)), .second, .val (.ref b28), .val (.ref b30), .val (.int (((p5.toUInt32 >>> ((8 : Int32) &&& 31).toUInt32).toInt32) &&& (3 : Int32))), .val (.int (0 : Int32))]) rfl) ?_
        show Go p.tables e below T31 (mkF m 175 #[.val (.int p1), .val (.long p2), .second, .val (.int p3), .val (.long p4), .second, .val (.int p5), .val (.int (0 : Int32)), .val (.int (1 : Int32)), .val (.long p2), .second, .val (.int (p5 &&& (3 : Int32))), .val (.long z27), .second, .val (.long (0 : Int64)), .second, .val (.ref b28), .val (.ref b30), .val (.int (((p5.toUInt32 >>> ((8 : Int32) &&& 31).toUInt32).toInt32) &&& (3 : Int32))), .val (.int (0 : Int32))] []) _
        refine go1 (fun _ => XS.aload X31.here hx rfl (hb hby at_175) rfl rfl) ?_
        show Go p.tables e below T31 (mkF m 177 #[.val (.int p1), .val (.long p2), .second, .val (.int p3), .val (.long p4), .second, .val (.int p5), .val (.int (0 : Int32)), .val (.int (1 : Int32)), .val (.long p2), .second, .val (.int (p5 &&& (3 : Int32))), .val (.long z27), .second, .val (.long (0 : Int64)), .second, .val (.ref b28), .val (.ref b30), .val (.int (((p5.toUInt32 >>> ((8 : Int32) &&& 31).toUInt32).toInt32) &&& (3 : Int32))), .val (.int (0 : Int32))] [(.ref b28)]) _
        refine go1 (fun _ => XS.aload X31.here hx rfl (hb hby at_177) rfl rfl) ?_
        show Go p.tables e below T31 (mkF m 179 #[.val (.int p1), .val (.long p2), .second, .val (.int p3), .val (.long p4), .second, .val (.int p5), .val (.int (0 : Int32)), .val (.int (1 : Int32)), .val (.long p2), .second, .val (.int (p5 &&& (3 : Int32))), .val (.long z27), .second, .val (.long (0 : Int64)), .second, .val (.ref b28), .val (.ref b30), .val (.int (((p5.toUInt32 >>> ((8 : Int32) &&& 31).toUInt32).toInt32) &&& (3 : Int32))), .val (.int (0 : Int32))] [(.ref b30), (.ref b28)]) _
        obtain ⟨cq33, kq33, q33a, q33b, q33c⟩ := isOf hZ rfl ((G29_0.ext E30).keep K31)
        obtain ⟨_, _, ⟨T33, L33, k33, n33⟩, -, X33, ⟨Lc33, hQ33, l33, y33, z33⟩, st33⟩ := X31.virtualBack hx (y := (⟨"com/example/stubwright/stubwright/idl/UnionType$Label", "equals", "(Ljava/lang/Object;)Z"⟩ : MethodName)) (z := (⟨"com/example/stubwright/stubwright/idl/UnionType$Label", "equals", "(Ljava/lang/Object;)Z"⟩ : MethodName)) hown (mvT hZ (hw _ (List.mem_of_getElem? (i := 18) rfl))) (mvT hZ (hw _ (List.mem_of_getElem? (i := 19) rfl))) (notFace_of_selects (args := #[]) (mvT hZ (hw _ (List.mem_of_getElem? (i := 21) rfl)))) (mvT hZ (hw _ (List.mem_of_getElem? (i := 21) rfl))) (mvT hZ (hw _ (List.mem_of_getElem? (i := 20) rfl))) (by decide) (backOf (W := 0) (rm4a l Z a0 hw [] b28 b30 (0 : Int32) p2 (1 : Int32) (0 : Int64) T31.heap n0 (Nat.le_trans (Nat.le_trans (Nat.le_trans (Nat.le_trans Z0 E28.1) K29.1) E30.1) K31.1) G31_0 ((G29_1.ext E30).keep K31 (ninS (Nat.ne_of_lt (Nat.lt_of_lt_of_le G29_2.lt (Nat.le_of_eq g30.symm))) nin0)) ((G29_2.ext E30).keep K31 (ninS (Nat.ne_of_lt (Nat.lt_of_lt_of_le G29_2.lt (Nat.le_of_eq g30.symm))) nin0)) G31_1 G31_2) hZ (hw _ (List.mem_of_getElem? (i := 22) rfl)) (hw _ (List.mem_of_getElem? (i := 2) rfl)) (by decide) (by decide)) q33a q33c (g := (mkF m 179 #[.val (.int p1), .val (.long p2), .second, .val (.int p3), .val (.long p4), .second, .val (.int p5), .val (.int (0 : Int32)), .val (.int (1 : Int32)), .val (.long p2), .second, .val (.int (p5 &&& (3 : Int32))), .val (.long z27), .second, .val (.long (0 : Int64)), .second, .val (.ref b28), .val (.ref b30), .val (.int (((p5.toUInt32 >>> ((8 : Int32) &&& 31).toUInt32).toInt32) &&& (3 : Int32))), .val (.int (0 : Int32))] [(.ref b30), (.ref b28)])) rfl (by rw [hml]; rfl) (Steps.refl _) (argsL := [(.ref b30)]) (rest := []) (lenOf pd0_1 rfl) rfl (by show 2 * 0 + _ ≤ _; exact Nat.le_of_eq rfl) (hb hby at_179) (fun _ _ => ⟨rfl, rfl, (by decide : 2 + 0 ≤ _), (by decide : 4 + 0 ≤ _)⟩)
        dsimp only [Pt.U, Pt.locs, Pt.cells, Pt.slots] at X33 l33 y33 z33 st33 hQ33
        subst l33 y33 z33
        obtain ⟨rfl, N33q, e33⟩ := hQ33
        have N33 := Fr.app N31 N33q
        refine goT st33 ?_
        show Go p.tables e below T33 (mkF m 182 #[.val (.int p1), .val (.long p2), .second, .val (.int p3), .val (.long p4), .second, .val (.int p5), .val (.int (0 : Int32)), .val (.int (1 : Int32)), .val (.long p2), .second, .val (.int (p5 &&& (3 : Int32))), .val (.long z27), .second, .val (.long (0 : Int64)), .second, .val (.ref b28), .val (.ref b30), .val (.int (((p5.toUInt32 >>> ((8 : Int32) &&& 31).toUInt32).toInt32) &&& (3 : Int32))), .val (.int (0 : Int32))] [(.int (own_4a (0 : Int32) p2 (1 : Int32) (0 : Int64)))]) _
        refine go1 (fun _ => XS.iload X33.here hx rfl (hb hby at_182) rfl) ?_
        show Go p.tables e below T33 (mkF m 184 #[.val (.int p1), .val (.long p2), .second, .val (.int p3), .val (.long p4), .second, .val (.int p5), .val (.int (0 : Int32)), .val (.int (1 : Int32)), .val (.long p2), .second, .val (.int (p5 &&& (3 : Int32))), .val (.long z27), .second, .val (.long (0 : Int64)), .second, .val (.ref b28), .val (.ref b30), .val (.int (((p5.toUInt32 >>> ((8 : Int32) &&& 31).toUInt32).toInt32) &&& (3 : Int32))), .val (.int (0 : Int32))] [(.int (0 : Int32)), (.int (own_4a (0 : Int32) p2 (1 : Int32) (0 : Int64)))]) _
        refine go1 (fun _ => XS.icmpNo X33.here hx rfl (hb hby at_184) rfl (teq (show (own_4a (0 : Int32) p2 (1 : Int32) (0 : Int64)) = (0 : Int32) from by first | decide | (simp [own_4a, hc32]; done) | (simp [own_4a, eq_comm, hc32]; done))).2) ?_
        show Go p.tables e below T33 (mkF m 187 #[.val (.int p1), .val (.long p2), .second, .val (.int p3), .val (.long p4), .second, .val (.int p5), .val (.int (0 : Int32)), .val (.int (1 : Int32)), .val (.long p2), .second, .val (.int (p5 &&& (3 : Int32))), .val (.long z27), .second, .val (.long (0 : Int64)), .second, .val (.ref b28), .val (.ref b30), .val (.int (((p5.toUInt32 >>> ((8 : Int32) &&& 31).toUInt32).toInt32) &&& (3 : Int32))), .val (.int (0 : Int32))] []) _
        refine go1 (fun _ => XS.aload X33.here hx rfl (hb hby at_187) rfl rfl) ?_
        show Go p.tables e below T33 (mkF m 189 #[.val (.int p1), .val (.long p2), .second, .val (.int p3), .val (.long p4), .second, .val (.int p5), .val (.int (0 : Int32)), .val (.int (1 : Int32)), .val (.long p2), .second, .val (.int (p5 &&& (3 : Int32))), .val (.long z27), .second, .val (.long (0 : Int64)), .second, .val (.ref b28), .val (.ref b30), .val (.int (((p5.toUInt32 >>> ((8 : Int32) &&& 31).toUInt32).toInt32) &&& (3 : Int32))), .val (.int (0 : Int32))] [(.ref b30)]) _
        refine go1 (fun _ => XS.aload X33.here hx rfl (hb hby at_189) rfl rfl) ?_
        show Go p.tables e below T33 (mkF m 191 #[.val (.int p1), .val (.long p2), .second, .val (.int p3), .val (.long p4), .second, .val (.int p5), .val (.int (0 : Int32)), .val (.int (1 : Int32)), .val (.long p2), .second, .val (.int (p5 &&& (3 : Int32))), .val (.long z27), .second, .val (.long (0 : Int64)), .second, .val (.ref b28), .val (.ref b30), .val (.int (((p5.toUInt32 >>> ((8 : Int32) &&& 31).toUInt32).toInt32) &&& (3 : Int32))), .val (.int (0 : Int32))] [(.ref b28), (.ref b30)]) _
        obtain ⟨cq34, kq34, q34a, q34b, q34c⟩ := isOf hZ e33 G31_0
        obtain ⟨_, _, ⟨T34, L34, k34, n34⟩, -, X34, ⟨Lc34, hQ34, l34, y34, z34⟩, st34⟩ := X33.virtualBack hx (y := (⟨"com/example/stubwright/stubwright/idl/UnionType$Label", "equals", "(Ljava/lang/Object;)Z"⟩ : MethodName)) (z := (⟨"com/example/stubwright/stubwright/idl/UnionType$Label", "equals", "(Ljava/lang/Object;)Z"⟩ : MethodName)) hown (mvT hZ (hw _ (List.mem_of_getElem? (i := 18) rfl))) (mvT hZ (hw _ (List.mem_of_getElem? (i := 19) rfl))) (notFace_of_selects (args := #[]) (mvT hZ (hw _ (List.mem_of_getElem? (i := 21) rfl)))) (mvT hZ (hw _ (List.mem_of_getElem? (i := 21) rfl))) (mvT hZ (hw _ (List.mem_of_getElem? (i := 20) rfl))) (by decide) (backOf (W := 0) (rm4a l Z a0 hw [] b30 b28 (1 : Int32) (0 : Int64) (0 : Int32) p2 T31.heap n0 (Nat.le_trans (Nat.le_trans (Nat.le_trans (Nat.le_trans Z0 E28.1) K29.1) E30.1) K31.1) ((G29_0.ext E30).keep K31) G31_1 G31_2 ((G29_1.ext E30).keep K31 (ninS (Nat.ne_of_lt (Nat.lt_of_lt_of_le G29_2.lt (Nat.le_of_eq g30.symm))) nin0)) ((G29_2.ext E30).keep K31 (ninS (Nat.ne_of_lt (Nat.lt_of_lt_of_le G29_2.lt (Nat.le_of_eq g30.symm))) nin0))) hZ (hw _ (List.mem_of_getElem? (i := 22) rfl)) (hw _ (List.mem_of_getElem? (i := 2) rfl)) (by decide) (by decide)) q34a q34c (g := (mkF m 191 #[.val (.int p1), .val (.long p2), .second, .val (.int p3), .val (.long p4), .second, .val (.int p5), .val (.int (0 : Int32)), .val (.int (1 : Int32)), .val (.long p2), .second, .val (.int (p5 &&& (3 : Int32))), .val (.long z27), .second, .val (.long (0 : Int64)), .second, .val (.ref b28), .val (.ref b30), .val (.int (((p5.toUInt32 >>> ((8 : Int32) &&& 31).toUInt32).toInt32) &&& (3 : Int32))), .val (.int (0 : Int32))] [(.ref b28), (.ref b30)])) rfl (by rw [hml]; rfl) (Steps.refl _) (argsL := [(.ref b28)]) (rest := []) (lenOf pd0_1 rfl) rfl (by show 2 * 0 + _ ≤ _; exact Nat.le_of_eq rfl) (hb hby at_191) (fun _ _ => ⟨rfl, e33, (by decide : 2 + 0 ≤ _), (by decide : 4 + 0 ≤ _)⟩)
        dsimp only [Pt.U, Pt.locs, Pt.cells, Pt.slots] at X34 l34 y34 z34 st34 hQ34
        subst l34 y34 z34
        obtain ⟨rfl, N34q, e34⟩ := hQ34
        have N34 := Fr.app N33 N34q
        refine goT st34 ?_
        show Go p.tables e below T34 (mkF m 194 #[.val (.int p1), .val (.long p2), .second, .val (.int p3), .val (.long p4), .second, .val (.int p5), .val (.int (0 : Int32)), .val (.int (1 : Int32)), .val (.long p2), .second, .val (.int (p5 &&& (3 : Int32))), .val (.long z27), .second, .val (.long (0 : Int64)), .second, .val (.ref b28), .val (.ref b30), .val (.int (((p5.toUInt32 >>> ((8 : Int32) &&& 31).toUInt32).toInt32) &&& (3 : Int32))), .val (.int (0 : Int32))] [(.int (own_4a (1 : Int32) (0 : Int64) (0 : Int32) p2))]) _
        refine go1 (fun _ => XS.iload X34.here hx rfl (hb hby at_194) rfl) ?_
        show Go p.tables e below T34 (mkF m 196 #[.val (.int p1), .val (.long p2), .second, .val (.int p3), .val (.long p4), .second, .val (.int p5), .val (.int (0 : Int32)), .val (.int (1 : Int32)), .val (.long p2), .second, .val (.int (p5 &&& (3 : Int32))), .val (.long z27), .second, .val (.long (0 : Int64)), .second, .val (.ref b28), .val (.ref b30), .val (.int (((p5.toUInt32 >>> ((8 : Int32) &&& 31).toUInt32).toInt32) &&& (3 : Int32))), .val (.int (0 : Int32))] [(.int (0 : Int32)), (.int (own_4a (1 : Int32) (0 : Int64) (0 : Int32) p2))]) _
        refine go1 (fun _ => XS.icmpNo X34.here hx rfl (hb hby at_196) rfl (teq (show (own_4a (1 : Int32) (0 : Int64) (0 : Int32) p2) = (0 : Int32) from by first | decide | (simp [own_4a, hc32]; done) | (simp [own_4a, eq_comm, hc32]; done))).2) ?_
        show Go p.tables e below T34 (mkF m 199 #[.val (.int p1), .val (.long p2), .second, .val (.int p3), .val (.long p4), .second, .val (.int p5), .val (.int (0 : Int32)), .val (.int (1 : Int32)), .val (.long p2), .second, .val (.int (p5 &&& (3 : Int32))), .val (.long z27), .second, .val (.long (0 : Int64)), .second, .val (.ref b28), .val (.ref b30), .val (.int (((p5.toUInt32 >>> ((8 : Int32) &&& 31).toUInt32).toInt32) &&& (3 : Int32))), .val (.int (0 : Int32))] []) _
        refine go1 (fun _ => XS.iconst X34.here hx rfl (hb hby at_199)) ?_
        show Go p.tables e below T34 (mkF m 200 #[.val (.int p1), .val (.long p2), .second, .val (.int p3), .val (.long p4), .second, .val (.int p5), .val (.int (0 : Int32)), .val (.int (1 : Int32)), .val (.long p2), .second, .val (.int (p5 &&& (3 : Int32))), .val (.long z27), .second, .val (.long (0 : Int64)), .second, .val (.ref b28), .val (.ref b30), .val (.int (((p5.toUInt32 >>> ((8 : Int32) &&& 31).toUInt32).toInt32) &&& (3 : Int32))), .val (.int (0 : Int32))] [(.int (1 : Int32))]) _
        refine go1 (fun _ => XS.goto X34.here hx rfl (pc0 := 200) (pc' := 204) rfl (hb hby at_200) (by decide) (by decide)) ?_
        show Go p.tables e below T34 (mkF m 204 #[.val (.int p1), .val (.long p2), .second, .val (.int p3), .val (.long p4), .second, .val (.int p5), .val (.int (0 : Int32)), .val (.int (1 : Int32)), .val (.long p2), .second, .val (.int (p5 &&& (3 : Int32))), .val (.long z27), .second, .val (.long (0 : Int64)), .second, .val (.ref b28), .val (.ref b30), .val (.int (((p5.toUInt32 >>> ((8 : Int32) &&& 31).toUInt32).toInt32) &&& (3 : Int32))), .val (.int (0 : Int32))] [(.int (1 : Int32))]) _
        refine goR X34 (BodyLoose.notSynchronized Bd) (v := (some (.int (1 : Int32)))) (fun h => by rw [Bd.returns] at h; cases h) (Q0 Z p1 p2 p3 p4 p5 a_cache h0 n0) (fun fs hr => retN X34 hx (t := .boolean) Bd.returns (by simp) (hb hby at_204) hr) (by decide) (by decide) ?_
        show Q0 Z p1 p2 p3 p4 p5 a_cache h0 n0 _ T34.heap _
        rw [e34]
        exact ⟨rfl, N34⟩
      · skip
        refine go1 (fun _ => XS.ifYes X31.here hx rfl (pc0 := 150) (pc' := 205) rfl (hb hby at_150) rfl ((if0 _ _).trans (feq hc32).2) (by decide) (by decide)) ?_
        show Go p.tables e below T31 (mkF m 205 #[.val (.int p1), .val (.long p2), .second, .val (.int p3), .val (.long p4), .second, .val (.int p5), .val (.int (0 : Int32)), .val (.int (1 : Int32)), .val (.long p2), .second, .val (.int (p5 &&& (3 : Int32))), .val (.long z27), .second, .val (.long (0 : Int64)), .second, .val (.ref b28), .val (.ref b30), .val (.int (((p5.toUInt32 >>> ((8 : Int32) &&& 31).toUInt32).toInt32) &&& (3 : Int32))), .unset] []) _
        refine go1 (fun _ => XS.iload X31.here hx rfl (hb hby at_205) rfl) ?_
        show Go p.tables e below T31 (mkF m 207 #[.val (.int p1), .val (.long p2), .second, .val (.int p3), .val (.long p4), .second, .val (.int p5), .val (.int (0 : Int32)), .val (.int (1 : Int32)), .val (.long p2), .second, .val (.int (p5 &&& (3 : Int32))), .val (.long z27), .second, .val (.long (0 : Int64)), .second, .val (.ref b28), .val (.ref b30), .val (.int (((p5.toUInt32 >>> ((8 : Int32) &&& 31).toUInt32).toInt32) &&& (3 : Int32))), .unset] [(.int (((p5.toUInt32 >>> ((8 : Int32) &&& 31).toUInt32).toInt32) &&& (3 : Int32)))]) _
        refine go1 (fun _ => XS.iconst X31.here hx rfl (hb hby at_207)) ?_
        show Go p.tables e below T31 (mkF m 208 #[.val (.int p1), .val (.long p2), .second, .val (.int p3), .val (.long p4), .second, .val (.int p5), .val (.int (0 : Int32)), .val (.int (1 : Int32)), .val (.long p2), .second, .val (.int (p5 &&& (3 : Int32))), .val (.long z27), .second, .val (.long (0 : Int64)), .second, .val (.ref b28), .val (.ref b30), .val (.int (((p5.toUInt32 >>> ((8 : Int32) &&& 31).toUInt32).toInt32) &&& (3 : Int32))), .unset] [(.int (1 : Int32)), (.int (((p5.toUInt32 >>> ((8 : Int32) &&& 31).toUInt32).toInt32) &&& (3 : Int32)))]) _
        by_cases hc35 : (((p5.toUInt32 >>> ((8 : Int32) &&& 31).toUInt32).toInt32) &&& (3 : Int32)) = (1 : Int32)
        · skip
          refine go1 (fun _ => XS.icmpNo X31.here hx rfl (hb hby at_208) rfl (teq hc35).2) ?_
          show Go p.tables e below T31 (mkF m 211 #[.val (.int p1), .val (.long p2), .second, .val (.int p3), .val (.long p4), .second, .val (.int p5), .val (.int (0 : Int32)), .val (.int (1 : Int32)), .val (.long p2), .second, .val (.int (p5 &&& (3 : Int32))), .val (.long z27), .second, .val (.long (0 : Int64)), .second, .val (.ref b28), .val (.ref b30), .val (.int (((p5.toUInt32 >>> ((8 : Int32) &&& 31).toUInt32).toInt32) &&& (3 : Int32))), .unset] []) _
          refine go1 (fun _ => XS.aconstNull X31.here hx rfl (hb hby at_211)) ?_
          show Go p.tables e below T31 (mkF m 212 #[.val (.int p1), .val (.long p2), .second, .val (.int p3), .val (.long p4), .second, .val (.int p5), .val (.int (0 : Int32)), .val (.int (1 : Int32)), .val (.long p2), .second, .val (.int (p5 &&& (3 : Int32))), .val (.long z27), .second, .val (.long (0 : Int64)), .second, .val (.ref b28), .val (.ref b30), .val (.int (((p5.toUInt32 >>> ((8 : Int32) &&& 31).toUInt32).toInt32) &&& (3 : Int32))), .unset] [.null]) _
          refine go1 (fun _ => XS.astore X31.here hx rfl (hb hby at_212) rfl rfl (l' := #[.val (.int p1), .val (.long p2), .second, .val (.int p3), .val (.long p4), .second, .val (.int p5), .val (.int (0 : Int32)), .val (.int (1 : Int32)), .val (.long p2), .second, .val (.int (p5 &&& (3 : Int32))), .val (.long z27), .second, .val (.long (0 : Int64)), .second, .val (.ref b28), .val (.ref b30), .val (.int (((p5.toUInt32 >>> ((8 : Int32) &&& 31).toUInt32).toInt32) &&& (3 : Int32))), .val .null]) rfl) ?_
          show Go p.tables e below T31 (mkF m 214 #[.val (.int p1), .val (.long p2), .second, .val (.int p3), .val (.long p4), .second, .val (.int p5), .val (.int (0 : Int32)), .val (.int (1 : Int32)), .val (.long p2), .second, .val (.int (p5 &&& (3 : Int32))), .val (.long z27), .second, .val (.long (0 : Int64)), .second, .val (.ref b28), .val (.ref b30), .val (.int (((p5.toUInt32 >>> ((8 : Int32) &&& 31).toUInt32).toInt32) &&& (3 : Int32))), .val .null] []) _
          refine go1 (fun _ => XS.aload X31.here hx rfl (hb hby at_214) rfl rfl) ?_
          show Go p.tables e below T31 (mkF m 216 #[.val (.int p1), .val (.long p2), .second, .val (.int p3), .val (.long p4), .second, .val (.int p5), .val (.int (0 : Int32)), .val (.int (1 : Int32)), .val (.long p2), .second, .val (.int (p5 &&& (3 : Int32))), .val (.long z27), .second, .val (.long (0 : Int64)), .second, .val (.ref b28), .val (.ref b30), .val (.int (((p5.toUInt32 >>> ((8 : Int32) &&& 31).toUInt32).toInt32) &&& (3 : Int32))), .val .null] [(.ref b28)]) _
          refine go1 (fun _ => XS.aload X31.here hx rfl (hb hby at_216) rfl rfl) ?_
          show Go p.tables e below T31 (mkF m 218 #[.val (.int p1), .val (.long p2), .second, .val (.int p3), .val (.long p4), .second, .val (.int p5), .val (.int (0 : Int32)), .val (.int (1 : Int32)), .val (.long p2), .second, .val (.int (p5 &&& (3 : Int32))), .val (.long z27), .second, .val (.long (0 : Int64)), .second, .val (.ref b28), .val (.ref b30), .val (.int (((p5.toUInt32 >>> ((8 : Int32) &&& 31).toUInt32).toInt32) &&& (3 : Int32))), .val .null] [.null, (.ref b28)]) _
          obtain ⟨cq36, kq36, q36a, q36b, q36c⟩ := isOf hZ rfl ((G29_0.ext E30).keep K31)
          obtain ⟨_, _, ⟨T36, L36, k36, n36⟩, -, X36, ⟨Lc36, hQ36, l36, y36, z36⟩, st36⟩ := X31.virtualBack hx (y := (⟨"com/example/stubwright/stubwright/idl/UnionType$Label", "equals", "(Ljava/lang/Object;)Z"⟩ : MethodName)) (z := (⟨"com/example/stubwright/stubwright/idl/UnionType$Label", "equals", "(Ljava/lang/Object;)Z"⟩ : MethodName)) hown (mvT hZ (hw _ (List.mem_of_getElem? (i := 18) rfl))) (mvT hZ (hw _ (List.mem_of_getElem? (i := 19) rfl))) (notFace_of_selects (args := #[]) (mvT hZ (hw _ (List.mem_of_getElem? (i := 21) rfl)))) (mvT hZ (hw _ (List.mem_of_getElem? (i := 21) rfl))) (mvT hZ (hw _ (List.mem_of_getElem? (i := 20) rfl))) (by decide) (backOf (W := 0) (rm4b l Z a0 hw [] b28 T31.heap n0 (Nat.le_trans (Nat.le_trans (Nat.le_trans (Nat.le_trans Z0 E28.1) K29.1) E30.1) K31.1) ) hZ (hw _ (List.mem_of_getElem? (i := 22) rfl)) (hw _ (List.mem_of_getElem? (i := 2) rfl)) (by decide) (by decide)) q36a q36c (g := (mkF m 218 #[.val (.int p1), .val (.long p2), .second, .val (.int p3), .val (.long p4), .second, .val (.int p5), .val (.int (0 : Int32)), .val (.int (1 : Int32)), .val (.long p2), .second, .val (.int (p5 &&& (3 : Int32))), .val (.long z27), .second, .val (.long (0 : Int64)), .second, .val (.ref b28), .val (.ref b30), .val (.int (((p5.toUInt32 >>> ((8 : Int32) &&& 31).toUInt32).toInt32) &&& (3 : Int32))), .val .null] [.null, (.ref b28)])) rfl (by rw [hml]; rfl) (Steps.refl _) (argsL := [.null]) (rest := []) (lenOf pd0_1 rfl) rfl (by show 2 * 0 + _ ≤ _; exact Nat.le_of_eq rfl) (hb hby at_218) (fun _ _ => ⟨rfl, rfl, (by decide : 2 + 0 ≤ _), (by decide : 4 + 0 ≤ _)⟩)
          dsimp only [Pt.U, Pt.locs, Pt.cells, Pt.slots] at X36 l36 y36 z36 st36 hQ36
          subst l36 y36 z36
          obtain ⟨rfl, N36q, e36⟩ := hQ36
          have N36 := Fr.app N31 N36q
          refine goT st36 ?_
          show Go p.tables e below T36 (mkF m 221 #[.val (.int p1), .val (.long p2), .second, .val (.int p3), .val (.long p4), .second, .val (.int p5), .val (.int (0 : Int32)), .val (.int (1 : Int32)), .val (.long p2), .second, .val (.int (p5 &&& (3 : Int32))), .val (.long z27), .second, .val (.long (0 : Int64)), .second, .val (.ref b28), .val (.ref b30), .val (.int (((p5.toUInt32 >>> ((8 : Int32) &&& 31).toUInt32).toInt32) &&& (3 : Int32))), .val .null] [(.int (0 : Int32))]) _
          refine go1 (fun _ => XS.ifNo X36.here hx rfl (hb hby at_221) rfl ((if0 _ _).trans (teq (by decide : (0 : Int32) = (0 : Int32))).2)) ?_
          show Go p.tables e below T36 (mkF m 224 #[.val (.int p1), .val (.long p2), .second, .val (.int p3), .val (.long p4), .second, .val (.int p5), .val (.int (0 : Int32)), .val (.int (1 : Int32)), .val (.long p2), .second, .val (.int (p5 &&& (3 : Int32))), .val (.long z27), .second, .val (.long (0 : Int64)), .second, .val (.ref b28), .val (.ref b30), .val (.int (((p5.toUInt32 >>> ((8 : Int32) &&& 31).toUInt32).toInt32) &&& (3 : Int32))), .val .null] []) _
          refine go1 (fun _ => XS.iconst X36.here hx rfl (hb hby at_224)) ?_
          show Go p.tables e below T36 (mkF m 225 #[.val (.int p1), .val (.long p2), .second, .val (.int p3), .val (.long p4), .second, .val (.int p5), .val (.int (0 : Int32)), .val (.int (1 : Int32)), .val (.long p2), .second, .val (.int (p5 &&& (3 : Int32))), .val (.long z27), .second, .val (.long (0 : Int64)), .second, .val (.ref b28), .val (.ref b30), .val (.int (((p5.toUInt32 >>> ((8 : Int32) &&& 31).toUInt32).toInt32) &&& (3 : Int32))), .val .null] [(.int (1 : Int32))]) _
          refine go1 (fun _ => XS.goto X36.here hx rfl (pc0 := 225) (pc' := 229) rfl (hb hby at_225) (by decide) (by decide)) ?_
          show Go p.tables e below T36 (mkF m 229 #[.val (.int p1), .val (.long p2), .second, .val (.int p3), .val (.long p4), .second, .val (.int p5), .val (.int (0 : Int32)), .val (.int (1 : Int32)), .val (.long p2), .second, .val (.int (p5 &&& (3 : Int32))), .val (.long z27), .second, .val (.long (0 : Int64)), .second, .val (.ref b28), .val (.ref b30), .val (.int (((p5.toUInt32 >>> ((8 : Int32) &&& 31).toUInt32).toInt32) &&& (3 : Int32))), .val .null] [(.int (1 : Int32))]) _
          refine goR X36 (BodyLoose.notSynchronized Bd) (v := (some (.int (1 : Int32)))) (fun h => by rw [Bd.returns] at h; cases h) (Q0 Z p1 p2 p3 p4 p5 a_cache h0 n0) (fun fs hr => retN X36 hx (t := .boolean) Bd.returns (by simp) (hb hby at_229) hr) (by decide) (by decide) ?_
          show Q0 Z p1 p2 p3 p4 p5 a_cache h0 n0 _ T36.heap _
          rw [e36]
          exact ⟨rfl, N36⟩
        · skip
          refine go1 (fun _ => XS.icmpYes X31.here hx rfl (pc0 := 208) (pc' := 230) rfl (hb hby at_208) rfl (feq hc35).2 (by decide) (by decide)) ?_
          show Go p.tables e below T31 (mkF m 230 #[.val (.int p1), .val (.long p2), .second, .val (.int p3), .val (.long p4), .second, .val (.int p5), .val (.int (0 : Int32)), .val (.int (1 : Int32)), .val (.long p2), .second, .val (.int (p5 &&& (3 : Int32))), .val (.long z27), .second, .val (.long (0 : Int64)), .second, .val (.ref b28), .val (.ref b30), .val (.int (((p5.toUInt32 >>> ((8 : Int32) &&& 31).toUInt32).toInt32) &&& (3 : Int32))), .unset] []) _
          refine go1 (fun _ => XS.iload X31.here hx rfl (hb hby at_230) rfl) ?_
          show Go p.tables e below T31 (mkF m 232 #[.val (.int p1), .val (.long p2), .second, .val (.int p3), .val (.long p4), .second, .val (.int p5), .val (.int (0 : Int32)), .val (.int (1 : Int32)), .val (.long p2), .second, .val (.int (p5 &&& (3 : Int32))), .val (.long z27), .second, .val (.long (0 : Int64)), .second, .val (.ref b28), .val (.ref b30), .val (.int (((p5.toUInt32 >>> ((8 : Int32) &&& 31).toUInt32).toInt32) &&& (3 : Int32))), .unset] [(.int (((p5.toUInt32 >>> ((8 : Int32) &&& 31).toUInt32).toInt32) &&& (3 : Int32)))]) _
          refine go1 (fun _ => XS.iconst X31.here hx rfl (hb hby at_232)) ?_
          show Go p.tables e below T31 (mkF m 233 #[.val (.int p1), .val (.long p2), .second, .val (.int p3), .val (.long p4), .second, .val (.int p5), .val (.int (0 : Int32)), .val (.int (1 : Int32)), .val (.long p2), .second, .val (.int (p5 &&& (3 : Int32))), .val (.long z27), .second, .val (.long (0 : Int64)), .second, .val (.ref b28), .val (.ref b30), .val (.int (((p5.toUInt32 >>> ((8 : Int32) &&& 31).toUInt32).toInt32) &&& (3 : Int32))), .unset] [(.int (2 : Int32)), (.int (((p5.toUInt32 >>> ((8 : Int32) &&& 31).toUInt32).toInt32) &&& (3 : Int32)))]) _
          by_cases hc37 : (((p5.toUInt32 >>> ((8 : Int32) &&& 31).toUInt32).toInt32) &&& (3 : Int32)) = (2 : Int32)
          · skip
            refine go1 (fun _ => XS.icmpNo X31.here hx rfl (hb hby at_233) rfl (teq hc37).2) ?_
            show Go p.tables e below T31 (mkF m 236 #[.val (.int p1), .val (.long p2), .second, .val (.int p3), .val (.long p4), .second, .val (.int p5), .val (.int (0 : Int32)), .val (.int (1 : Int32)), .val (.long p2), .second, .val (.int (p5 &&& (3 : Int32))), .val (.long z27), .second, .val (.long (0 : Int64)), .second, .val (.ref b28), .val (.ref b30), .val (.int (((p5.toUInt32 >>> ((8 : Int32) &&& 31).toUInt32).toInt32) &&& (3 : Int32))), .unset] []) _
            refine go1 (fun _ => XS.lload X31.here hx rfl (hb hby at_236) rfl) ?_
            show Go p.tables e below T31 (mkF m 238 #[.val (.int p1), .val (.long p2), .second, .val (.int p3), .val (.long p4), .second, .val (.int p5), .val (.int (0 : Int32)), .val (.int (1 : Int32)), .val (.long p2), .second, .val (.int (p5 &&& (3 : Int32))), .val (.long z27), .second, .val (.long (0 : Int64)), .second, .val (.ref b28), .val (.ref b30), .val (.int (((p5.toUInt32 >>> ((8 : Int32) &&& 31).toUInt32).toInt32) &&& (3 : Int32))), .unset] [(.long p2)]) _
            obtain ⟨_, _, ⟨T38, L38, k38, n38⟩, -, X38, ⟨Lc38, hQ38, l38, y38, z38⟩, st38⟩ := Jvm.LawKit.callS X31 hx (y := (⟨"java/lang/Long", "valueOf", "(J)Ljava/lang/Long;"⟩ : MethodName)) hown (mvT hZ (hw _ (List.mem_of_getElem? (i := 26) rfl))) (mvT hZ (hw _ (List.mem_of_getElem? (i := 27) rfl))) (mvT hZ (hw _ (List.mem_of_getElem? (i := 28) rfl))) (mvT hZ (hw _ (List.mem_of_getElem? (i := 29) rfl))) (by decide) (backOf (W := 0) (rm5 l Z a0 hw [] p2 a_cache T31.heap n0 (Nat.le_trans (Nat.le_trans (Nat.le_trans (Nat.le_trans Z0 E28.1) K29.1) E30.1) K31.1) ((((O0.ext E28).keep K29 (allS g_b28 all0)).ext E30).keep K31 (allS g_b30 all0)) S_cache BX_a_cache) hZ (hw _ (List.mem_of_getElem? (i := 29) rfl)) (hw _ (List.mem_of_getElem? (i := 28) rfl)) (by decide) (by decide)) (g := (mkF m 238 #[.val (.int p1), .val (.long p2), .second, .val (.int p3), .val (.long p4), .second, .val (.int p5), .val (.int (0 : Int32)), .val (.int (1 : Int32)), .val (.long p2), .second, .val (.int (p5 &&& (3 : Int32))), .val (.long z27), .second, .val (.long (0 : Int64)), .second, .val (.ref b28), .val (.ref b30), .val (.int (((p5.toUInt32 >>> ((8 : Int32) &&& 31).toUInt32).toInt32) &&& (3 : Int32))), .unset] [(.long p2)])) rfl (by rw [hml]; rfl) (argsL := [(.long p2)]) (rest := []) (lenOf pd0_2 rfl) rfl (by show 2 * 0 + _ ≤ _; exact Nat.le_of_eq rfl) (hb hby at_238) (fun _ _ => ⟨rfl, rfl, (by decide : 2 + 1 ≤ _), (by decide : 4 + 1 ≤ _)⟩)
            dsimp only [Pt.U, Pt.locs, Pt.cells, Pt.slots] at X38 l38 y38 z38 st38 hQ38
            subst l38 y38 z38
            obtain ⟨b39, rfl, N38q, K38, G38_0, G38_1⟩ := hQ38
            have N38 := Fr.app N31 N38q
            refine go1 st38 ?_
            show Go p.tables e below T38 (mkF m 241 #[.val (.int p1), .val (.long p2), .second, .val (.int p3), .val (.long p4), .second, .val (.int p5), .val (.int (0 : Int32)), .val (.int (1 : Int32)), .val (.long p2), .second, .val (.int (p5 &&& (3 : Int32))), .val (.long z27), .second, .val (.long (0 : Int64)), .second, .val (.ref b28), .val (.ref b30), .val (.int (((p5.toUInt32 >>> ((8 : Int32) &&& 31).toUInt32).toInt32) &&& (3 : Int32))), .unset] [(.ref b39)]) _
            refine go1 (fun _ => XS.astore X38.here hx rfl (hb hby at_241) rfl rfl (l' := #[.val (.int p1), .val (.long p2), .second, .val (.int p3), .val (.long p4), .second, .val (.int p5), .val (.int (0 : Int32)), .val (.int (1 : Int32)), .val (.long p2), .second, .val (.int (p5 &&& (3 : Int32))), .val (.long z27), .second, .val (.long (0 : Int64)), .second, .val (.ref b28), .val (.ref b30), .val (.int (((p5.toUInt32 >>> ((8 : Int32) &&& 31).toUInt32).toInt32) &&& (3 : Int32))), .val (.ref b39)]) rfl) ?_
            show Go p.tables e below T38 (mkF m 243 #[.val (.int p1), .val (.long p2), .second, .val (.int p3), .val (.long p4), .second, .val (.int p5), .val (.int (0 : Int32)), .val (.int (1 : Int32)), .val (.long p2), .second, .val (.int (p5 &&& (3 : Int32))), .val (.long z27), .second, .val (.long (0 : Int64)), .second, .val (.ref b28), .val (.ref b30), .val (.int (((p5.toUInt32 >>> ((8 : Int32) &&& 31).toUInt32).toInt32) &&& (3 : Int32))), .val (.ref b39)] []) _
            refine go1 (fun _ => XS.aload X38.here hx rfl (hb hby at_243) rfl rfl) ?_
            show Go p.tables e below T38 (mkF m 245 #[.val (.int p1), .val (.long p2), .second, .val (.int p3), .val (.long p4), .second, .val (.int p5), .val (.int (0 : Int32)), .val (.int (1 : Int32)), .val (.long p2), .second, .val (.int (p5 &&& (3 : Int32))), .val (.long z27), .second, .val (.long (0 : Int64)), .second, .val (.ref b28), .val (.ref b30), .val (.int (((p5.toUInt32 >>> ((8 : Int32) &&& 31).toUInt32).toInt32) &&& (3 : Int32))), .val (.ref b39)] [(.ref b28)]) _
            refine go1 (fun _ => XS.aload X38.here hx rfl (hb hby at_245) rfl rfl) ?_
            show Go p.tables e below T38 (mkF m 247 #[.val (.int p1), .val (.long p2), .second, .val (.int p3), .val (.long p4), .second, .val (.int p5), .val (.int (0 : Int32)), .val (.int (1 : Int32)), .val (.long p2), .second, .val (.int (p5 &&& (3 : Int32))), .val (.long z27), .second, .val (.long (0 : Int64)), .second, .val (.ref b28), .val (.ref b30), .val (.int (((p5.toUInt32 >>> ((8 : Int32) &&& 31).toUInt32).toInt32) &&& (3 : Int32))), .val (.ref b39)] [(.ref b39), (.ref b28)]) _
            obtain ⟨cq40, kq40, q40a, q40b, q40c⟩ := isOf hZ rfl (((G29_0.ext E30).keep K31).keep K38)
            obtain ⟨_, _, ⟨T40, L40, k40, n40⟩, -, X40, ⟨Lc40, hQ40, l40, y40, z40⟩, st40⟩ := X38.virtualBack hx (y := (⟨"com/example/stubwright/stubwright/idl/UnionType$Label", "equals", "(Ljava/lang/Object;)Z"⟩ : MethodName)) (z := (⟨"com/example/stubwright/stubwright/idl/UnionType$Label", "equals", "(Ljava/lang/Object;)Z"⟩ : MethodName)) hown (mvT hZ (hw _ (List.mem_of_getElem? (i := 18) rfl))) (mvT hZ (hw _ (List.mem_of_getElem? (i := 19) rfl))) (notFace_of_selects (args := #[]) (mvT hZ (hw _ (List.mem_of_getElem? (i := 21) rfl)))) (mvT hZ (hw _ (List.mem_of_getElem? (i := 21) rfl))) (mvT hZ (hw _ (List.mem_of_getElem? (i := 20) rfl))) (by decide) (backOf (W := 0) (rm4c l Z a0 hw [] b28 b39 T38.heap n0 (Nat.le_trans (Nat.le_trans (Nat.le_trans (Nat.le_trans (Nat.le_trans Z0 E28.1) K29.1) E30.1) K31.1) K38.1) G38_0) hZ (hw _ (List.mem_of_getElem? (i := 22) rfl)) (hw _ (List.mem_of_getElem? (i := 2) rfl)) (by decide) (by decide)) q40a q40c (g := (mkF m 247 #[.val (.int p1), .val (.long p2), .second, .val (.int p3), .val (.long p4), .second, .val (.int p5), .val (.int (0 : Int32)), .val (.int (1 : Int32)), .val (.long p2), .second, .val (.int (p5 &&& (3 : Int32))), .val (.long z27), .second, .val (.long (0 : Int64)), .second, .val (.ref b28), .val (.ref b30), .val (.int (((p5.toUInt32 >>> ((8 : Int32) &&& 31).toUInt32).toInt32) &&& (3 : Int32))), .val (.ref b39)] [(.ref b39), (.ref b28)])) rfl (by rw [hml]; rfl) (Steps.refl _) (argsL := [(.ref b39)]) (rest := []) (lenOf pd0_1 rfl) rfl (by show 2 * 0 + _ ≤ _; exact Nat.le_of_eq rfl) (hb hby at_247) (fun _ _ => ⟨rfl, rfl, (by decide : 3 + 0 ≤ _), (by decide : 5 + 0 ≤ _)⟩)
            dsimp only [Pt.U, Pt.locs, Pt.cells, Pt.slots] at X40 l40 y40 z40 st40 hQ40
            subst l40 y40 z40
            obtain ⟨rfl, N40q, e40⟩ := hQ40
            have N40 := Fr.app N38 N40q
            refine goT st40 ?_
            show Go p.tables e below T40 (mkF m 250 #[.val (.int p1), .val (.long p2), .second, .val (.int p3), .val (.long p4), .second, .val (.int p5), .val (.int (0 : Int32)), .val (.int (1 : Int32)), .val (.long p2), .second, .val (.int (p5 &&& (3 : Int32))), .val (.long z27), .second, .val (.long (0 : Int64)), .second, .val (.ref b28), .val (.ref b30), .val (.int (((p5.toUInt32 >>> ((8 : Int32) &&& 31).toUInt32).toInt32) &&& (3 : Int32))), .val (.ref b39)] [(.int (0 : Int32))]) _
            refine go1 (fun _ => XS.ifNo X40.here hx rfl (hb hby at_250) rfl ((if0 _ _).trans (teq (by decide : (0 : Int32) = (0 : Int32))).2)) ?_
            show Go p.tables e below T40 (mkF m 253 #[.val (.int p1), .val (.long p2), .second, .val (.int p3), .val (.long p4), .second, .val (.int p5), .val (.int (0 : Int32)), .val (.int (1 : Int32)), .val (.long p2), .second, .val (.int (p5 &&& (3 : Int32))), .val (.long z27), .second, .val (.long (0 : Int64)), .second, .val (.ref b28), .val (.ref b30), .val (.int (((p5.toUInt32 >>> ((8 : Int32) &&& 31).toUInt32).toInt32) &&& (3 : Int32))), .val (.ref b39)] []) _
            refine go1 (fun _ => XS.iconst X40.here hx rfl (hb hby at_253)) ?_
            show Go p.tables e below T40 (mkF m 254 #[.val (.int p1), .val (.long p2), .second, .val (.int p3), .val (.long p4), .second, .val (.int p5), .val (.int (0 : Int32)), .val (.int (1 : Int32)), .val (.long p2), .second, .val (.int (p5 &&& (3 : Int32))), .val (.long z27), .second, .val (.long (0 : Int64)), .second, .val (.ref b28), .val (.ref b30), .val (.int (((p5.toUInt32 >>> ((8 : Int32) &&& 31).toUInt32).toInt32) &&& (3 : Int32))), .val (.ref b39)] [(.int (1 : Int32))]) _
            refine go1 (fun _ => XS.goto X40.here hx rfl (pc0 := 254) (pc' := 258) rfl (hb hby at_254) (by decide) (by decide)) ?_
            show Go p.tables e below T40 (mkF m 258 #[.val (.int p1), .val (.long p2), .second, .val (.int p3), .val (.long p4), .second, .val (.int p5), .val (.int (0 : Int32)), .val (.int (1 : Int32)), .val (.long p2), .second, .val (.int (p5 &&& (3 : Int32))), .val (.long z27), .second, .val (.long (0 : Int64)), .second, .val (.ref b28), .val (.ref b30), .val (.int (((p5.toUInt32 >>> ((8 : Int32) &&& 31).toUInt32).toInt32) &&& (3 : Int32))), .val (.ref b39)] [(.int (1 : Int32))]) _
            refine goR X40 (BodyLoose.notSynchronized Bd) (v := (some (.int (1 : Int32)))) (fun h => by rw [Bd.returns] at h; cases h) (Q0 Z p1 p2 p3 p4 p5 a_cache h0 n0) (fun fs hr => retN X40 hx (t := .boolean) Bd.returns (by simp) (hb hby at_258) hr) (by decide) (by decide) ?_
            show Q0 Z p1 p2 p3 p4 p5 a_cache h0 n0 _ T40.heap _
            rw [e40]
            exact ⟨rfl, N40⟩
          · skip
            refine go1 (fun _ => XS.icmpYes X31.here hx rfl (pc0 := 233) (pc' := 259) rfl (hb hby at_233) rfl (feq hc37).2 (by decide) (by decide)) ?_
            show Go p.tables e below T31 (mkF m 259 #[.val (.int p1), .val (.long p2), .second, .val (.int p3), .val (.long p4), .second, .val (.int p5), .val (.int (0 : Int32)), .val (.int (1 : Int32)), .val (.long p2), .second, .val (.int (p5 &&& (3 : Int32))), .val (.long z27), .second, .val (.long (0 : Int64)), .second, .val (.ref b28), .val (.ref b30), .val (.int (((p5.toUInt32 >>> ((8 : Int32) &&& 31).toUInt32).toInt32) &&& (3 : Int32))), .unset] []) _
            refine go1 (fun _ => XS.aload X31.here hx rfl (hb hby at_259) rfl rfl) ?_
            show Go p.tables e below T31 (mkF m 261 #[.val (.int p1), .val (.long p2), .second, .val (.int p3), .val (.long p4), .second, .val (.int p5), .val (.int (0 : Int32)), .val (.int (1 : Int32)), .val (.long p2), .second, .val (.int (p5 &&& (3 : Int32))), .val (.long z27), .second, .val (.long (0 : Int64)), .second, .val (.ref b28), .val (.ref b30), .val (.int (((p5.toUInt32 >>> ((8 : Int32) &&& 31).toUInt32).toInt32) &&& (3 : Int32))), .unset] [(.ref b28)]) _
            refine go1 (fun _ => XS.astore X31.here hx rfl (hb hby at_261) rfl rfl (l' := #[.val (.int p1), .val (.long p2), .second, .val (.int p3), .val (.long p4), .second, .val (.int p5), .val (.int (0 : Int32)), .val (.int (1 : Int32)), .val (.long p2), .second, .val (.int (p5 &&& (3 : Int32))), .val (.long z27), .second, .val (.long (0 : Int64)), .second, .val (.ref b28), .val (.ref b30), .val (.int (((p5.toUInt32 >>> ((8 : Int32) &&& 31).toUInt32).toInt32) &&& (3 : Int32))), .val (.ref b28)]) rfl) ?_
            show Go p.tables e below T31 (mkF m 263 #[.val (.int p1), .val (.long p2), .second, .val (.int p3), .val (.long p4), .second, .val (.int p5), .val (.int (0 : Int32)), .val (.int (1 : Int32)), .val (.long p2), .second, .val (.int (p5 &&& (3 : Int32))), .val (.long z27), .second, .val (.long (0 : Int64)), .second, .val (.ref b28), .val (.ref b30), .val (.int (((p5.toUInt32 >>> ((8 : Int32) &&& 31).toUInt32).toInt32) &&& (3 : Int32))), .val (.ref b28)] []) _
            refine go1 (fun _ => XS.aload X31.here hx rfl (hb hby at_263) rfl rfl) ?_
            show Go p.tables e below T31 (mkF m 265 #[.val (.int p1), .val (.long p2), .second, .val (.int p3), .val (.long p4), .second, .val (.int p5), .val (.int (0 : Int32)), .val (.int (1 : Int32)), .val (.long p2), .second, .val (.int (p5 &&& (3 : Int32))), .val (.long z27), .second, .val (.long (0 : Int64)), .second, .val (.ref b28), .val (.ref b30), .val (.int (((p5.toUInt32 >>> ((8 : Int32) &&& 31).toUInt32).toInt32) &&& (3 : Int32))), .val (.ref b28)] [(.ref b28)]) _
            refine go1 (fun _ => XS.aload X31.here hx rfl (hb hby at_265) rfl rfl) ?_
            show Go p.tables e below T31 (mkF m 267 #[.val (.int p1), .val (.long p2), .second, .val (.int p3), .val (.long p4), .second, .val (.int p5), .val (.int (0 : Int32)), .val (.int (1 : Int32)), .val (.long p2), .second, .val (.int (p5 &&& (3 : Int32))), .val (.long z27), .second, .val (.long (0 : Int64)), .second, .val (.ref b28), .val (.ref b30), .val (.int (((p5.toUInt32 >>> ((8 : Int32) &&& 31).toUInt32).toInt32) &&& (3 : Int32))), .val (.ref b28)] [(.ref b28), (.ref b28)]) _
            obtain ⟨cq41, kq41, q41a, q41b, q41c⟩ := isOf hZ rfl ((G29_0.ext E30).keep K31)
            obtain ⟨_, _, ⟨T41, L41, k41, n41⟩, -, X41, ⟨Lc41, hQ41, l41, y41, z41⟩, st41⟩ := X31.virtualBack hx (y := (⟨"com/example/stubwright/stubwright/idl/UnionType$Label", "equals", "(Ljava/lang/Object;)Z"⟩ : MethodName)) (z := (⟨"com/example/stubwright/stubwright/idl/UnionType$Label", "equals", "(Ljava/lang/Object;)Z"⟩ : MethodName)) hown (mvT hZ (hw _ (List.mem_of_getElem? (i := 18) rfl))) (mvT hZ (hw _ (List.mem_of_getElem? (i := 19) rfl))) (notFace_of_selects (args := #[]) (mvT hZ (hw _ (List.mem_of_getElem? (i := 21) rfl)))) (mvT hZ (hw _ (List.mem_of_getElem? (i := 21) rfl))) (mvT hZ (hw _ (List.mem_of_getElem? (i := 20) rfl))) (by decide) (backOf (W := 0) (rm4a l Z a0 hw [] b28 b28 (0 : Int32) p2 (0 : Int32) p2 T31.heap n0 (Nat.le_trans (Nat.le_trans (Nat.le_trans (Nat.le_trans Z0 E28.1) K29.1) E30.1) K31.1) ((G29_0.ext E30).keep K31) ((G29_1.ext E30).keep K31 (ninS (Nat.ne_of_lt (Nat.lt_of_lt_of_le G29_2.lt (Nat.le_of_eq g30.symm))) nin0)) ((G29_2.ext E30).keep K31 (ninS (Nat.ne_of_lt (Nat.lt_of_lt_of_le G29_2.lt (Nat.le_of_eq g30.symm))) nin0)) ((G29_1.ext E30).keep K31 (ninS (Nat.ne_of_lt (Nat.lt_of_lt_of_le G29_2.lt (Nat.le_of_eq g30.symm))) nin0)) ((G29_2.ext E30).keep K31 (ninS (Nat.ne_of_lt (Nat.lt_of_lt_of_le G29_2.lt (Nat.le_of_eq g30.symm))) nin0))) hZ (hw _ (List.mem_of_getElem? (i := 22) rfl)) (hw _ (List.mem_of_getElem? (i := 2) rfl)) (by decide) (by decide)) q41a q41c (g := (mkF m 267 #[.val (.int p1), .val (.long p2), .second, .val (.int p3), .val (.long p4), .second, .val (.int p5), .val (.int (0 : Int32)), .val (.int (1 : Int32)), .val (.long p2), .second, .val (.int (p5 &&& (3 : Int32))), .val (.long z27), .second, .val (.long (0 : Int64)), .second, .val (.ref b28), .val (.ref b30), .val (.int (((p5.toUInt32 >>> ((8 : Int32) &&& 31).toUInt32).toInt32) &&& (3 : Int32))), .val (.ref b28)] [(.ref b28), (.ref b28)])) rfl (by rw [hml]; rfl) (Steps.refl _) (argsL := [(.ref b28)]) (rest := []) (lenOf pd0_1 rfl) rfl (by show 2 * 0 + _ ≤ _; exact Nat.le_of_eq rfl) (hb hby at_267) (fun _ _ => ⟨rfl, rfl, (by decide : 2 + 0 ≤ _), (by decide : 4 + 0 ≤ _)⟩)
            dsimp only [Pt.U, Pt.locs, Pt.cells, Pt.slots] at X41 l41 y41 z41 st41 hQ41
            subst l41 y41 z41
            obtain ⟨rfl, N41q, e41⟩ := hQ41
            have N41 := Fr.app N31 N41q
            refine goT st41 ?_
            show Go p.tables e below T41 (mkF m 270 #[.val (.int p1), .val (.long p2), .second, .val (.int p3), .val (.long p4), .second, .val (.int p5), .val (.int (0 : Int32)), .val (.int (1 : Int32)), .val (.long p2), .second, .val (.int (p5 &&& (3 : Int32))), .val (.long z27), .second, .val (.long (0 : Int64)), .second, .val (.ref b28), .val (.ref b30), .val (.int (((p5.toUInt32 >>> ((8 : Int32) &&& 31).toUInt32).toInt32) &&& (3 : Int32))), .val (.ref b28)] [(.int (own_4a (0 : Int32) p2 (0 : Int32) p2))]) _
            refine goR X41 (BodyLoose.notSynchronized Bd) (v := (some (.int (nar .boolean (own_4a (0 : Int32) p2 (0 : Int32) p2))))) (fun h => by rw [Bd.returns] at h; cases h) (Q0 Z p1 p2 p3 p4 p5 a_cache h0 n0) (fun fs hr => retN X41 hx (t := .boolean) Bd.returns (by simp) (hb hby at_270) hr) (by decide) (by decide) ?_
            show Q0 Z p1 p2 p3 p4 p5 a_cache h0 n0 _ T41.heap _
            rw [e41]
            exact ⟨(by simp [own_4a, nar]), N41⟩
  · skip
    refine go1 (fun _ => XS.ifNo X0.here hx rfl (hb hby at_3) rfl ((if0 _ _).trans (feq hc1).1)) ?_
    show Go p.tables e below s₁ (mkF m 6 #[.val (.int p1), .val (.long p2), .second, .val (.int p3), .val (.long p4), .second, .val (.int p5), .unset, .unset, .unset, .unset, .unset, .unset, .unset, .unset, .unset, .unset, .unset, .unset, .unset] []) _
    refine go1 (fun _ => XS.iconst X0.here hx rfl (hb hby at_6)) ?_
    show Go p.tables e below s₁ (mkF m 7 #[.val (.int p1), .val (.long p2), .second, .val (.int p3), .val (.long p4), .second, .val (.int p5), .unset, .unset, .unset, .unset, .unset, .unset, .unset, .unset, .unset, .unset, .unset, .unset, .unset] [(.int (1 : Int32))]) _
    refine go1 (fun _ => XS.goto X0.here hx rfl (pc0 := 7) (pc' := 11) rfl (hb hby at_7) (by decide) (by decide)) ?_
    show Go p.tables e below s₁ (mkF m 11 #[.val (.int p1), .val (.long p2), .second, .val (.int p3), .val (.long p4), .second, .val (.int p5), .unset, .unset, .unset, .unset, .unset, .unset, .unset, .unset, .unset, .unset, .unset, .unset, .unset] [(.int (1 : Int32))]) _
    refine go1 (fun _ => XS.istore X0.here hx rfl (hb hby at_11) rfl (l' := #[.val (.int p1), .val (.long p2), .second, .val (.int p3), .val (.long p4), .second, .val (.int p5), .val (.int (1 : Int32)), .unset, .unset, .unset, .unset, .unset, .unset, .unset, .unset, .unset, .unset, .unset, .unset]) rfl) ?_
    show Go p.tables e below s₁ (mkF m 13 #[.val (.int p1), .val (.long p2), .second, .val (.int p3), .val (.long p4), .second, .val (.int p5), .val (.int (1 : Int32)), .unset, .unset, .unset, .unset, .unset, .unset, .unset, .unset, .unset, .unset, .unset, .unset] []) _
    refine go1 (fun _ => XS.iloadN X0.here hx rfl (hb hby at_13) rfl) ?_
    show Go p.tables e below s₁ (mkF m 14 #[.val (.int p1), .val (.long p2), .second, .val (.int p3), .val (.long p4), .second, .val (.int p5), .val (.int (1 : Int32)), .unset, .unset, .unset, .unset, .unset, .unset, .unset, .unset, .unset, .unset, .unset, .unset] [(.int p3)]) _
    refine go1 (fun _ => XS.iconst X0.here hx rfl (hb hby at_14)) ?_
    show Go p.tables e below s₁ (mkF m 15 #[.val (.int p1), .val (.long p2), .second, .val (.int p3), .val (.long p4), .second, .val (.int p5), .val (.int (1 : Int32)), .unset, .unset, .unset, .unset, .unset, .unset, .unset, .unset, .unset, .unset, .unset, .unset] [(.int (1 : Int32)), (.int p3)]) _
    refine go1 (fun _ => XS.iand X0.here hx rfl (hb hby at_15) rfl) ?_
    show Go p.tables e below s₁ (mkF m 16 #[.val (.int p1), .val (.long p2), .second, .val (.int p3), .val (.long p4), .second, .val (.int p5), .val (.int (1 : Int32)), .unset, .unset, .unset, .unset, .unset, .unset, .unset, .unset, .unset, .unset, .unset, .unset] [(.int (p3 &&& (1 : Int32)))]) _
    by_cases hc42 : (p3 &&& (1 : Int32)) = (0 : Int32)
    · skip
      refine go1 (fun _ => XS.ifYes X0.here hx rfl (pc0 := 16) (pc' := 23) rfl (hb hby at_16) rfl ((if0 _ _).trans (teq hc42).1) (by decide) (by decide)) ?_
      show Go p.tables e below s₁ (mkF m 23 #[.val (.int p1), .val (.long p2), .second, .val (.int p3), .val (.long p4), .second, .val (.int p5), .val (.int (1 : Int32)), .unset, .unset, .unset, .unset, .unset, .unset, .unset, .unset, .unset, .unset, .unset, .unset] []) _
      refine go1 (fun _ => XS.iconst X0.here hx rfl (hb hby at_23)) ?_
      show Go p.tables e below s₁ (mkF m 24 #[.val (.int p1), .val (.long p2), .second, .val (.int p3), .val (.long p4), .second, .val (.int p5), .val (.int (1 : Int32)), .unset, .unset, .unset, .unset, .unset, .unset, .unset, .unset, .unset, .unset, .unset, .unset] [(.int (0 : Int32))]) _
      refine go1 (fun _ => XS.istore X0.here hx rfl (hb hby at_24) rfl (l' := #[.val (.int p1), .val (.long p2), .second, .val (.int p3), .val (.long p4), .second, .val (.int p5), .val (.int (1 : Int32)), .val (.int (0 : Int32)), .unset, .unset, .unset, .unset, .unset, .unset, .unset, .unset, .unset, .unset, .unset]) rfl) ?_
      show Go p.tables e below s₁ (mkF m 26 #[.val (.int p1), .val (.long p2), .second, .val (.int p3), .val (.long p4), .second, .val (.int p5), .val (.int (1 : Int32)), .val (.int (0 : Int32)), .unset, .unset, .unset, .unset, .unset, .unset, .unset, .unset, .unset, .unset, .unset] []) _
      refine go1 (fun _ => XS.iload X0.here hx rfl (hb hby at_26) rfl) ?_
      show Go p.tables e below s₁ (mkF m 28 #[.val (.int p1), .val (.long p2), .second, .val (.int p3), .val (.long p4), .second, .val (.int p5), .val (.int (1 : Int32)), .val (.int (0 : Int32)), .unset, .unset, .unset, .unset, .unset, .unset, .unset, .unset, .unset, .unset, .unset] [(.int (1 : Int32))]) _
      refine go1 (fun _ => XS.ifNo X0.here hx rfl (hb hby at_28) rfl ((if0 _ _).trans (feq (by decide : ¬ ((1 : Int32) = (0 : Int32)))).1)) ?_
      show Go p.tables e below s₁ (mkF m 31 #[.val (.int p1), .val (.long p2), .second, .val (.int p3), .val (.long p4), .second, .val (.int p5), .val (.int (1 : Int32)), .val (.int (0 : Int32)), .unset, .unset, .unset, .unset, .unset, .unset, .unset, .unset, .unset, .unset, .unset] []) _
      refine go1 (fun _ => XS.lconst X0.here hx rfl (hb hby at_31)) ?_
      show Go p.tables e below s₁ (mkF m 32 #[.val (.int p1), .val (.long p2), .second, .val (.int p3), .val (.long p4), .second, .val (.int p5), .val (.int (1 : Int32)), .val (.int (0 : Int32)), .unset, .unset, .unset, .unset, .unset, .unset, .unset, .unset, .unset, .unset, .unset] [(.long (0 : Int64))]) _
      refine go1 (fun _ => XS.goto X0.here hx rfl (pc0 := 32) (pc' := 36) rfl (hb hby at_32) (by decide) (by decide)) ?_
      show Go p.tables e below s₁ (mkF m 36 #[.val (.int p1), .val (.long p2), .second, .val (.int p3), .val (.long p4), .second, .val (.int p5), .val (.int (1 : Int32)), .val (.int (0 : Int32)), .unset, .unset, .unset, .unset, .unset, .unset, .unset, .unset, .unset, .unset, .unset] [(.long (0 : Int64))]) _
      refine go1 (fun _ => XS.lstore X0.here hx rfl (hb hby at_36) rfl (l' := #[.val (.int p1), .val (.long p2), .second, .val (.int p3), .val (.long p4), .second, .val (.int p5), .val (.int (1 : Int32)), .val (.int (0 : Int32)), .val (.long (0 : Int64)), .second, .unset, .unset, .unset, .unset, .unset, .unset, .unset, .unset, .unset]) rfl) ?_
      show Go p.tables e below s₁ (mkF m 38 #[.val (.int p1), .val (.long p2), .second, .val (.int p3), .val (.long p4), .second, .val (.int p5), .val (.int (1 : Int32)), .val (.int (0 : Int32)), .val (.long (0 : Int64)), .second, .unset, .unset, .unset, .unset, .unset, .unset, .unset, .unset, .unset] []) _
      refine go1 (fun _ => XS.iload X0.here hx rfl (hb hby at_38) rfl) ?_
      show Go p.tables e below s₁ (mkF m 40 #[.val (.int p1), .val (.long p2), .second, .val (.int p3), .val (.long p4), .second, .val (.int p5), .val (.int (1 : Int32)), .val (.int (0 : Int32)), .val (.long (0 : Int64)), .second, .unset, .unset, .unset, .unset, .unset, .unset, .unset, .unset, .unset] [(.int p5)]) _
      refine go1 (fun _ => XS.iconst X0.here hx rfl (hb hby at_40)) ?_
      show Go p.tables e below s₁ (mkF m 41 #[.val (.int p1), .val (.long p2), .second, .val (.int p3), .val (.long p4), .second, .val (.int p5), .val (.int (1 : Int32)), .val (.int (0 : Int32)), .val (.long (0 : Int64)), .second, .unset, .unset, .unset, .unset, .unset, .unset, .unset, .unset, .unset] [(.int (3 : Int32)), (.int p5)]) _
      refine go1 (fun _ => XS.iand X0.here hx rfl (hb hby at_41) rfl) ?_
      show Go p.tables e below s₁ (mkF m 42 #[.val (.int p1), .val (.long p2), .second, .val (.int p3), .val (.long p4), .second, .val (.int p5), .val (.int (1 : Int32)), .val (.int (0 : Int32)), .val (.long (0 : Int64)), .second, .unset, .unset, .unset, .unset, .unset, .unset, .unset, .unset, .unset] [(.int (p5 &&& (3 : Int32)))]) _
      refine go1 (fun _ => XS.istore X0.here hx rfl (hb hby at_42) rfl (l' := #[.val (.int p1), .val (.long p2), .second, .val (.int p3), .val (.long p4), .second, .val (.int p5), .val (.int (1 : Int32)), .val (.int (0 : Int32)), .val (.long (0 : Int64)), .second, .val (.int (p5 &&& (3 : Int32))), .unset, .unset, .unset, .unset, .unset, .unset, .unset, .unset]) rfl) ?_
      show Go p.tables e below s₁ (mkF m 44 #[.val (.int p1), .val (.long p2), .second, .val (.int p3), .val (.long p4), .second, .val (.int p5), .val (.int (1 : Int32)), .val (.int (0 : Int32)), .val (.long (0 : Int64)), .second, .val (.int (p5 &&& (3 : Int32))), .unset, .unset, .unset, .unset, .unset, .unset, .unset, .unset] []) _
      refine go1 (fun _ => XS.iload X0.here hx rfl (hb hby at_44) rfl) ?_
      show Go p.tables e below s₁ (mkF m 46 #[.val (.int p1), .val (.long p2), .second, .val (.int p3), .val (.long p4), .second, .val (.int p5), .val (.int (1 : Int32)), .val (.int (0 : Int32)), .val (.long (0 : Int64)), .second, .val (.int (p5 &&& (3 : Int32))), .unset, .unset, .unset, .unset, .unset, .unset, .unset, .unset] [(.int (p5 &&& (3 : Int32)))]) _
      refine go1 (T' := s₁) (g' := (mkF m 100 #[.val (.int p1), .val (.long p2), .second, .val (.int p3), .val (.long p4), .second, .val (.int p5), .val (.int (1 : Int32)), .val (.int (0 : Int32)), .val (.long (0 : Int64)), .second, .val (.int (p5 &&& (3 : Int32))), .val (.long (if (p5 &&& (3 : Int32)) = (0 : Int32) then p4 else (if (p5 &&& (3 : Int32)) = (1 : Int32) then (0 : Int64) else (if (p5 &&& (3 : Int32)) = (2 : Int32) then ((0 : Int64) ^^^ ((1 : Int64) <<< ((((p5.toUInt32 >>> ((2 : Int32) &&& 31).toUInt32).toInt32) &&& (63 : Int32)) &&& 0x3f).toInt64)) else (-1 : Int64))))), .second, .unset, .unset, .unset, .unset, .unset, .unset] [])) (fun t k => ?_) ?_
      · by_cases hd43 : (p5 &&& (3 : Int32)) = (0 : Int32)
        · skip
          rw [(if_pos hd43 : (if (p5 &&& (3 : Int32)) = (0 : Int32) then p4 else (if (p5 &&& (3 : Int32)) = (1 : Int32) then (0 : Int64) else (if (p5 &&& (3 : Int32)) = (2 : Int32) then ((0 : Int64) ^^^ ((1 : Int64) <<< ((((p5.toUInt32 >>> ((2 : Int32) &&& 31).toUInt32).toInt32) &&& (63 : Int32)) &&& 0x3f).toInt64)) else (-1 : Int64)))) = p4)] at k
          show Steps p.tables e below (s₁.setTop (mkF m 46 #[.val (.int p1), .val (.long p2), .second, .val (.int p3), .val (.long p4), .second, .val (.int p5), .val (.int (1 : Int32)), .val (.int (0 : Int32)), .val (.long (0 : Int64)), .second, .val (.int (p5 &&& (3 : Int32))), .unset, .unset, .unset, .unset, .unset, .unset, .unset, .unset] [(.int (p5 &&& (3 : Int32)))])) _
          refine XS.ifNo X0.here hx rfl (hb hby at_46) rfl ((if0 _ _).trans (teq hd43).2) ?_
          show Steps p.tables e below (s₁.setTop (mkF m 49 #[.val (.int p1), .val (.long p2), .second, .val (.int p3), .val (.long p4), .second, .val (.int p5), .val (.int (1 : Int32)), .val (.int (0 : Int32)), .val (.long (0 : Int64)), .second, .val (.int (p5 &&& (3 : Int32))), .unset, .unset, .unset, .unset, .unset, .unset, .unset, .unset] [])) _
          refine XS.lload X0.here hx rfl (hb hby at_49) rfl ?_
          show Steps p.tables e below (s₁.setTop (mkF m 51 #[.val (.int p1), .val (.long p2), .second, .val (.int p3), .val (.long p4), .second, .val (.int p5), .val (.int (1 : Int32)), .val (.int (0 : Int32)), .val (.long (0 : Int64)), .second, .val (.int (p5 &&& (3 : Int32))), .unset, .unset, .unset, .unset, .unset, .unset, .unset, .unset] [(.long p4)])) _
          refine XS.lstore X0.here hx rfl (hb hby at_51) rfl (l' := #[.val (.int p1), .val (.long p2), .second, .val (.int p3), .val (.long p4), .second, .val (.int p5), .val (.int (1 : Int32)), .val (.int (0 : Int32)), .val (.long (0 : Int64)), .second, .val (.int (p5 &&& (3 : Int32))), .val (.long p4), .second, .unset, .unset, .unset, .unset, .unset, .unset]) rfl ?_
          show Steps p.tables e below (s₁.setTop (mkF m 53 #[.val (.int p1), .val (.long p2), .second, .val (.int p3), .val (.long p4), .second, .val (.int p5), .val (.int (1 : Int32)), .val (.int (0 : Int32)), .val (.long (0 : Int64)), .second, .val (.int (p5 &&& (3 : Int32))), .val (.long p4), .second, .unset, .unset, .unset, .unset, .unset, .unset] [])) _
          refine XS.goto X0.here hx rfl (pc0 := 53) (pc' := 100) rfl (hb hby at_53) (by decide) (by decide) ?_
          show Steps p.tables e below (s₁.setTop (mkF m 100 #[.val (.int p1), .val (.long p2), .second, .val (.int p3), .val (.long p4), .second, .val (.int p5), .val (.int (1 : Int32)), .val (.int (0 : Int32)), .val (.long (0 : Int64)), .second, .val (.int (p5 &&& (3 : Int32))), .val (.long p4), .second, .unset, .unset, .unset, .unset, .unset, .unset] [])) _
          exact k
        · skip
          rw [(if_neg hd43 : (if (p5 &&& (3 : Int32)) = (0 : Int32) then p4 else (if (p5 &&& (3 : Int32)) = (1 : Int32) then (0 : Int64) else (if (p5 &&& (3 : Int32)) = (2 : Int32) then ((0 : Int64) ^^^ ((1 : Int64) <<< ((((p5.toUInt32 >>> ((2 : Int32) &&& 31).toUInt32).toInt32) &&& (63 : Int32)) &&& 0x3f).toInt64)) else (-1 : Int64)))) = (if (p5 &&& (3 : Int32)) = (1 : Int32) then (0 : Int64) else (if (p5 &&& (3 : Int32)) = (2 : Int32) then ((0 : Int64) ^^^ ((1 : Int64) <<< ((((p5.toUInt32 >>> ((2 : Int32) &&& 31).toUInt32).toInt32) &&& (63 : Int32)) &&& 0x3f).toInt64)) else (-1 : Int64))))] at k
          show Steps p.tables e below (s₁.setTop (mkF m 46 #[.val (.int p1), .val (.long p2), .second, .val (.int p3), .val (.long p4), .second, .val (.int p5), .val (.int (1 : Int32)), .val (.int (0 : Int32)), .val (.long (0 : Int64)), .second, .val (.int (p5 &&& (3 : Int32))), .unset, .unset, .unset, .unset, .unset, .unset, .unset, .unset] [(.int (p5 &&& (3 : Int32)))])) _
          refine XS.ifYes X0.here hx rfl (pc0 := 46) (pc' := 56) rfl (hb hby at_46) rfl ((if0 _ _).trans (feq hd43).2) (by decide) (by decide) ?_
          show Steps p.tables e below (s₁.setTop (mkF m 56 #[.val (.int p1), .val (.long p2), .second, .val (.int p3), .val (.long p4), .second, .val (.int p5), .val (.int (1 : Int32)), .val (.int (0 : Int32)), .val (.long (0 : Int64)), .second, .val (.int (p5 &&& (3 : Int32))), .unset, .unset, .unset, .unset, .unset, .unset, .unset, .unset] [])) _
          refine XS.iload X0.here hx rfl (hb hby at_56) rfl ?_
          show Steps p.tables e below (s₁.setTop (mkF m 58 #[.val (.int p1), .val (.long p2), .second, .val (.int p3), .val (.long p4), .second, .val (.int p5), .val (.int (1 : Int32)), .val (.int (0 : Int32)), .val (.long (0 : Int64)), .second, .val (.int (p5 &&& (3 : Int32))), .unset, .unset, .unset, .unset, .unset, .unset, .unset, .unset] [(.int (p5 &&& (3 : Int32)))])) _
          refine XS.iconst X0.here hx rfl (hb hby at_58) ?_
          show Steps p.tables e below (s₁.setTop (mkF m 59 #[.val (.int p1), .val (.long p2), .second, .val (.int p3), .val (.long p4), .second, .val (.int p5), .val (.int (1 : Int32)), .val (.int (0 : Int32)), .val (.long (0 : Int64)), .second, .val (.int (p5 &&& (3 : Int32))), .unset, .unset, .unset, .unset, .unset, .unset, .unset, .unset] [(.int (1 : Int32)), (.int (p5 &&& (3 : Int32)))])) _
          refine stp (T' := s₁) (g' := (mkF m 100 #[.val (.int p1), .val (.long p2), .second, .val (.int p3), .val (.long p4), .second, .val (.int p5), .val (.int (1 : Int32)), .val (.int (0 : Int32)), .val (.long (0 : Int64)), .second, .val (.int (p5 &&& (3 : Int32))), .val (.long (if (p5 &&& (3 : Int32)) = (1 : Int32) then (0 : Int64) else (if (p5 &&& (3 : Int32)) = (2 : Int32) then ((0 : Int64) ^^^ ((1 : Int64) <<< ((((p5.toUInt32 >>> ((2 : Int32) &&& 31).toUInt32).toInt32) &&& (63 : Int32)) &&& 0x3f).toInt64)) else (-1 : Int64)))), .second, .unset, .unset, .unset, .unset, .unset, .unset] [])) (fun t k => ?_) ?_
          · by_cases hd44 : (p5 &&& (3 : Int32)) = (1 : Int32)
            · skip
              rw [(if_pos hd44 : (if (p5 &&& (3 : Int32)) = (1 : Int32) then (0 : Int64) else (if (p5 &&& (3 : Int32)) = (2 : Int32) then ((0 : Int64) ^^^ ((1 : Int64) <<< ((((p5.toUInt32 >>> ((2 : Int32) &&& 31).toUInt32).toInt32) &&& (63 : Int32)) &&& 0x3f).toInt64)) else (-1 : Int64))) = (0 : Int64))] at k
              show Steps p.tables e below (s₁.setTop (mkF m 59 #[.val (.int p1), .val (.long p2), .second, .val (.int p3), .val (.long p4), .second, .val (.int p5), .val (.int (1 : Int32)), .val (.int (0 : Int32)), .val (.long (0 : Int64)), .second, .val (.int (p5 &&& (3 : Int32))), .unset, .unset, .unset, .unset, .unset, .unset, .unset, .unset] [(.int (1 : Int32)), (.int (p5 &&& (3 : Int32)))])) _
              refine XS.icmpNo X0.here hx rfl (hb hby at_59) rfl (teq hd44).2 ?_
              show Steps p.tables e below (s₁.setTop (mkF m 62 #[.val (.int p1), .val (.long p2), .second, .val (.int p3), .val (.long p4), .second, .val (.int p5), .val (.int (1 : Int32)), .val (.int (0 : Int32)), .val (.long (0 : Int64)), .second, .val (.int (p5 &&& (3 : Int32))), .unset, .unset, .unset, .unset, .unset, .unset, .unset, .unset] [])) _
              refine XS.lload X0.here hx rfl (hb hby at_62) rfl ?_
              show Steps p.tables e below (s₁.setTop (mkF m 64 #[.val (.int p1), .val (.long p2), .second, .val (.int p3), .val (.long p4), .second, .val (.int p5), .val (.int (1 : Int32)), .val (.int (0 : Int32)), .val (.long (0 : Int64)), .second, .val (.int (p5 &&& (3 : Int32))), .unset, .unset, .unset, .unset, .unset, .unset, .unset, .unset] [(.long (0 : Int64))])) _
              refine XS.lstore X0.here hx rfl (hb hby at_64) rfl (l' := #[.val (.int p1), .val (.long p2), .second, .val (.int p3), .val (.long p4), .second, .val (.int p5), .val (.int (1 : Int32)), .val (.int (0 : Int32)), .val (.long (0 : Int64)), .second, .val (.int (p5 &&& (3 : Int32))), .val (.long (0 : Int64)), .second, .unset, .unset, .unset, .unset, .unset, .unset]) rfl ?_
              show Steps p.tables e below (s₁.setTop (mkF m 66 #[.val (.int p1), .val (.long p2), .second, .val (.int p3), .val (.long p4), .second, .val (.int p5), .val (.int (1 : Int32)), .val (.int (0 : Int32)), .val (.long (0 : Int64)), .second, .val (.int (p5 &&& (3 : Int32))), .val (.long (0 : Int64)), .second, .unset, .unset, .unset, .unset, .unset, .unset] [])) _
              refine XS.goto X0.here hx rfl (pc0 := 66) (pc' := 100) rfl (hb hby at_66) (by decide) (by decide) ?_
              show Steps p.tables e below (s₁.setTop (mkF m 100 #[.val (.int p1), .val (.long p2), .second, .val (.int p3), .val (.long p4), .second, .val (.int p5), .val (.int (1 : Int32)), .val (.int (0 : Int32)), .val (.long (0 : Int64)), .second, .val (.int (p5 &&& (3 : Int32))), .val (.long (0 : Int64)), .second, .unset, .unset, .unset, .unset, .unset, .unset] [])) _
              exact k
            · skip
              rw [(if_neg hd44 : (if (p5 &&& (3 : Int32)) = (1 : Int32) then (0 : Int64) else (if (p5 &&& (3 : Int32)) = (2 : Int32) then ((0 : Int64) ^^^ ((1 : Int64) <<< ((((p5.toUInt32 >>> ((2 : Int32) &&& 31).toUInt32).toInt32) &&& (63 : Int32)) &&& 0x3f).toInt64)) else (-1 : Int64))) = (if (p5 &&& (3 : Int32)) = (2 : Int32) then ((0 : Int64) ^^^ ((1 : Int64) <<< ((((p5.toUInt32 >>> ((2 : Int32) &&& 31).toUInt32).toInt32) &&& (63 : Int32)) &&& 0x3f).toInt64)) else (-1 : Int64)))] at k
              show Steps p.tables e below (s₁.setTop (mkF m 59 #[.val (.int p1), .val (.long p2), .second, .val (.int p3), .val (.long p4), .second, .val (.int p5), .val (.int (1 : Int32)), .val (.int (0 : Int32)), .val (.long (0 : Int64)), .second, .val (.int (p5 &&& (3 : Int32))), .unset, .unset, .unset, .unset, .unset, .unset, .unset, .unset] [(.int (1 : Int32)), (.int (p5 &&& (3 : Int32)))])) _
              refine XS.icmpYes X0.here hx rfl (pc0 := 59) (pc' := 69) rfl (hb hby at_59) rfl (feq hd44).2 (by decide) (by decide) ?_
              show Steps p.tables e below (s₁.setTop (mkF m 69 #[.val (.int p1), .val (.long p2), .second, .val (.int p3), .val (.long p4), .second, .val (.int p5), .val (.int (1 : Int32)), .val (.int (0 : Int32)), .val (.long (0 : Int64)), .second, .val (.int (p5 &&& (3 : Int32))), .unset, .unset, .unset, .unset, .unset, .unset, .unset, .unset] [])) _
              refine XS.iload X0.here hx rfl (hb hby at_69) rfl ?_
              show Steps p.tables e below (s₁.setTop (mkF m 71 #[.val (.int p1), .val (.long p2), .second, .val (.int p3), .val (.long p4), .second, .val (.int p5), .val (.int (1 : Int32)), .val (.int (0 : Int32)), .val (.long (0 : Int64)), .second, .val (.int (p5 &&& (3 : Int32))), .unset, .unset, .unset, .unset, .unset, .unset, .unset, .unset] [(.int (p5 &&& (3 : Int32)))])) _
              refine XS.iconst X0.here hx rfl (hb hby at_71) ?_
              show Steps p.tables e below (s₁.setTop (mkF m 72 #[.val (.int p1), .val (.long p2), .second, .val (.int p3), .val (.long p4), .second, .val (.int p5), .val (.int (1 : Int32)), .val (.int (0 : Int32)), .val (.long (0 : Int64)), .second, .val (.int (p5 &&& (3 : Int32))), .unset, .unset, .unset, .unset, .unset, .unset, .unset, .unset] [(.int (2 : Int32)), (.int (p5 &&& (3 : Int32)))])) _
              refine stp (T' := s₁) (g' := (mkF m 100 #[.val (.int p1), .val (.long p2), .second, .val (.int p3), .val (.long p4), .second, .val (.int p5), .val (.int (1 : Int32)), .val (.int (0 : Int32)), .val (.long (0 : Int64)), .second, .val (.int (p5 &&& (3 : Int32))), .val (.long (if (p5 &&& (3 : Int32)) = (2 : Int32) then ((0 : Int64) ^^^ ((1 : Int64) <<< ((((p5.toUInt32 >>> ((2 : Int32) &&& 31).toUInt32).toInt32) &&& (63 : Int32)) &&& 0x3f).toInt64)) else (-1 : Int64))), .second, .unset, .unset, .unset, .unset, .unset, .unset] [])) (fun t k => ?_) ?_
              · by_cases hd45 : (p5 &&& (3 : Int32)) = (2 : Int32)
                · skip
                  rw [(if_pos hd45 : (if (p5 &&& (3 : Int32)) = (2 : Int32) then ((0 : Int64) ^^^ ((1 : Int64) <<< ((((p5.toUInt32 >>> ((2 : Int32) &&& 31).toUInt32).toInt32) &&& (63 : Int32)) &&& 0x3f).toInt64)) else (-1 : Int64)) = ((0 : Int64) ^^^ ((1 : Int64) <<< ((((p5.toUInt32 >>> ((2 : Int32) &&& 31).toUInt32).toInt32) &&& (63 : Int32)) &&& 0x3f).toInt64)))] at k
                  show Steps p.tables e below (s₁.setTop (mkF m 72 #[.val (.int p1), .val (.long p2), .second, .val (.int p3), .val (.long p4), .second, .val (.int p5), .val (.int (1 : Int32)), .val (.int (0 : Int32)), .val (.long (0 : Int64)), .second, .val (.int (p5 &&& (3 : Int32))), .unset, .unset, .unset, .unset, .unset, .unset, .unset, .unset] [(.int (2 : Int32)), (.int (p5 &&& (3 : Int32)))])) _
                  refine XS.icmpNo X0.here hx rfl (hb hby at_72) rfl (teq hd45).2 ?_
                  show Steps p.tables e below (s₁.setTop (mkF m 75 #[.val (.int p1), .val (.long p2), .second, .val (.int p3), .val (.long p4), .second, .val (.int p5), .val (.int (1 : Int32)), .val (.int (0 : Int32)), .val (.long (0 : Int64)), .second, .val (.int (p5 &&& (3 : Int32))), .unset, .unset, .unset, .unset, .unset, .unset, .unset, .unset] [])) _
                  refine XS.lload X0.here hx rfl (hb hby at_75) rfl ?_
                  show Steps p.tables e below (s₁.setTop (mkF m 77 #[.val (.int p1), .val (.long p2), .second, .val (.int p3), .val (.long p4), .second, .val (.int p5), .val (.int (1 : Int32)), .val (.int (0 : Int32)), .val (.long (0 : Int64)), .second, .val (.int (p5 &&& (3 : Int32))), .unset, .unset, .unset, .unset, .unset, .unset, .unset, .unset] [(.long (0 : Int64))])) _
                  refine XS.lconst X0.here hx rfl (hb hby at_77) ?_
                  show Steps p.tables e below (s₁.setTop (mkF m 78 #[.val (.int p1), .val (.long p2), .second, .val (.int p3), .val (.long p4), .second, .val (.int p5), .val (.int (1 : Int32)), .val (.int (0 : Int32)), .val (.long (0 : Int64)), .second, .val (.int (p5 &&& (3 : Int32))), .unset, .unset, .unset, .unset, .unset, .unset, .unset, .unset] [(.long (1 : Int64)), (.long (0 : Int64))])) _
                  refine XS.iload X0.here hx rfl (hb hby at_78) rfl ?_
                  show Steps p.tables e below (s₁.setTop (mkF m 80 #[.val (.int p1), .val (.long p2), .second, .val (.int p3), .val (.long p4), .second, .val (.int p5), .val (.int (1 : Int32)), .val (.int (0 : Int32)), .val (.long (0 : Int64)), .second, .val (.int (p5 &&& (3 : Int32))), .unset, .unset, .unset, .unset, .unset, .unset, .unset, .unset] [(.int p5), (.long (1 : Int64)), (.long (0 : Int64))])) _
                  refine XS.iconst X0.here hx rfl (hb hby at_80) ?_
                  show Steps p.tables e below (s₁.setTop (mkF m 81 #[.val (.int p1), .val (.long p2), .second, .val (.int p3), .val (.long p4), .second, .val (.int p5), .val (.int (1 : Int32)), .val (.int (0 : Int32)), .val (.long (0 : Int64)), .second, .val (.int (p5 &&& (3 : Int32))), .unset, .unset, .unset, .unset, .unset, .unset, .unset, .unset] [(.int (2 : Int32)), (.int p5), (.long (1 : Int64)), (.long (0 : Int64))])) _
                  refine XS.iushr X0.here hx rfl (hb hby at_81) rfl ?_
                  show Steps p.tables e below (s₁.setTop (mkF m 82 #[.val (.int p1), .val (.long p2), .second, .val (.int p3), .val (.long p4), .second, .val (.int p5), .val (.int (1 : Int32)), .val (.int (0 : Int32)), .val (.long (0 : Int64)), .second, .val (.int (p5 &&& (3 : Int32))), .unset, .unset, .unset, .unset, .unset, .unset, .unset, .unset] [(.int ((p5.toUInt32 >>> ((2 : Int32) &&& 31).toUInt32).toInt32)), (.long (1 : Int64)), (.long (0 : Int64))])) _
                  refine XS.bipush X0.here hx rfl (hb hby at_82) ?_
                  show Steps p.tables e below (s₁.setTop (mkF m 84 #[.val (.int p1), .val (.long p2), .second, .val (.int p3), .val (.long p4), .second, .val (.int p5), .val (.int (1 : Int32)), .val (.int (0 : Int32)), .val (.long (0 : Int64)), .second, .val (.int (p5 &&& (3 : Int32))), .unset, .unset, .unset, .unset, .unset, .unset, .unset, .unset] [(.int (63 : Int32)), (.int ((p5.toUInt32 >>> ((2 : Int32) &&& 31).toUInt32).toInt32)), (.long (1 : Int64)), (.long (0 : Int64))])) _
                  refine XS.iand X0.here hx rfl (hb hby at_84) rfl ?_
                  show Steps p.tables e below (s₁.setTop (mkF m 85 #[.val (.int p1), .val (.long p2), .second, .val (.int p3), .val (.long p4), .second, .val (.int p5), .val (.int (1 : Int32)), .val (.int (0 : Int32)), .val (.long (0 : Int64)), .second, .val (.int (p5 &&& (3 : Int32))), .unset, .unset, .unset, .unset, .unset, .unset, .unset, .unset] [(.int (((p5.toUInt32 >>> ((2 : Int32) &&& 31).toUInt32).toInt32) &&& (63 : Int32))), (.long (1 : Int64)), (.long (0 : Int64))])) _
                  refine XS.lshl X0.here hx rfl (hb hby at_85) rfl ?_
                  show Steps p.tables e below (s₁.setTop (mkF m 86 #[.val (.int p1), .val (.long p2), .second, .val (.int p3), .val (.long p4), .second, .val (.int p5), .val (.int (1 : Int32)), .val (.int (0 : Int32)), .val (.long (0 : Int64)), .second, .val (.int (p5 &&& (3 : Int32))), .unset, .unset, .unset, .unset, .unset, .unset, .unset, .unset] [(.long ((1 : Int64) <<< ((((p5.toUInt32 >>> ((2 : Int32) &&& 31).toUInt32).toInt32) &&& (63 : Int32)) &&& 0x3f).toInt64)), (.long (0 : Int64))])) _
                  refine XS.lxor X0.here hx rfl (hb hby at_86) rfl ?_
                  show Steps p.tables e below (s₁.setTop (mkF m 87 #[.val (.int p1), .val (.long p2), .second, .val (.int p3), .val (.long p4), .second, .val (.int p5), .val (.int (1 : Int32)), .val (.int (0 : Int32)), .val (.long (0 : Int64)), .second, .val (.int (p5 &&& (3 : Int32))), .unset, .unset, .unset, .unset, .unset, .unset, .unset, .unset] [(.long ((0 : Int64) ^^^ ((1 : Int64) <<< ((((p5.toUInt32 >>> ((2 : Int32) &&& 31).toUInt32).toInt32) &&& (63 : Int32)) &&& 0x3f).toInt64)))])) _
                  refine XS.lstore X0.here hx rfl (hb hby at_87) rfl (l' := #[.val (.int p1), .val (.long p2), .second, .val (.int p3), .val (.long p4), .second, .val (.int p5), .val (.int (1 : Int32)), .val (.int (0 : Int32)), .val (.long (0 : Int64)), .second, .val (.int (p5 &&& (3 : Int32))), .val (.long ((0 : Int64) ^^^ ((1 : Int64) <<< ((((p5.toUInt32 >>> ((2 : Int32) &&& 31).toUInt32).toInt32) &&& (63 : Int32)) &&& 0x3f).toInt64))), .second, .unset, .unset, .unset, .unset, .unset, .unset]) rfl ?_
                  show Steps p.tables e below (s₁.setTop (mkF m 89 #[.val (.int p1), .val (.long p2), .second, .val (.int p3), .val (.long p4), .second, .val (.int p5), .val (.int (1 : Int32)), .val (.int (0 : Int32)), .val (.long (0 : Int64)), .second, .val (.int (p5 &&& (3 : Int32))), .val (.long ((0 : Int64) ^^^ ((1 : Int64) <<< ((((p5.toUInt32 >>> ((2 : Int32) &&& 31).toUInt32).toInt32) &&& (63 : Int32)) &&& 0x3f).toInt64))), .second, .unset, .unset, .unset, .unset, .unset, .unset] [])) _
                  refine XS.goto X0.here hx rfl (pc0 := 89) (pc' := 100) rfl (hb hby at_89) (by decide) (by decide) ?_
                  show Steps p.tables e below (s₁.setTop (mkF m 100 #[.val (.int p1), .val (.long p2), .second, .val (.int p3), .val (.long p4), .second, .val (.int p5), .val (.int (1 : Int32)), .val (.int (0 : Int32)), .val (.long (0 : Int64)), .second, .val (.int (p5 &&& (3 : Int32))), .val (.long ((0 : Int64) ^^^ ((1 : Int64) <<< ((((p5.toUInt32 >>> ((2 : Int32) &&& 31).toUInt32).toInt32) &&& (63 : Int32)) &&& 0x3f).toInt64))), .second, .unset, .unset, .unset, .unset, .unset, .unset] [])) _
                  exact k
                · skip
                  rw [(if_neg hd45 : (if (p5 &&& (3 : Int32)) = (2 : Int32) then ((0 : Int64) ^^^ ((1 : Int64) <<< ((((p5.toUInt32 >>> ((2 : Int32) &&& 31).toUInt32).toInt32) &&& (63 : Int32)) &&& 0x3f).toInt64)) else (-1 : Int64)) = (-1 : Int64))] at k
                  show Steps p.tables e below (s₁.setTop (mkF m 72 #[.val (.int p1), .val (.long p2), .second, .val (.int p3), .val (.long p4), .second, .val (.int p5), .val (.int (1 : Int32)), .val (.int (0 : Int32)), .val (.long (0 : Int64)), .second, .val (.int (p5 &&& (3 : Int32))), .unset, .unset, .unset, .unset, .unset, .unset, .unset, .unset] [(.int (2 : Int32)), (.int (p5 &&& (3 : Int32)))])) _
                  refine XS.icmpYes X0.here hx rfl (pc0 := 72) (pc' := 92) rfl (hb hby at_72) rfl (feq hd45).2 (by decide) (by decide) ?_
                  show Steps p.tables e below (s₁.setTop (mkF m 92 #[.val (.int p1), .val (.long p2), .second, .val (.int p3), .val (.long p4), .second, .val (.int p5), .val (.int (1 : Int32)), .val (.int (0 : Int32)), .val (.long (0 : Int64)), .second, .val (.int (p5 &&& (3 : Int32))), .unset, .unset, .unset, .unset, .unset, .unset, .unset, .unset] [])) _
                  refine XS.lload X0.here hx rfl (hb hby at_92) rfl ?_
                  show Steps p.tables e below (s₁.setTop (mkF m 94 #[.val (.int p1), .val (.long p2), .second, .val (.int p3), .val (.long p4), .second, .val (.int p5), .val (.int (1 : Int32)), .val (.int (0 : Int32)), .val (.long (0 : Int64)), .second, .val (.int (p5 &&& (3 : Int32))), .unset, .unset, .unset, .unset, .unset, .unset, .unset, .unset] [(.long (0 : Int64))])) _
                  refine X0.ldc2Long hx hown (mvT hZ (hw _ (List.mem_of_getElem? (i := 25) rfl))) (g := (mkF m 94 #[.val (.int p1), .val (.long p2), .second, .val (.int p3), .val (.long p4), .second, .val (.int p5), .val (.int (1 : Int32)), .val (.int (0 : Int32)), .val (.long (0 : Int64)), .second, .val (.int (p5 &&& (3 : Int32))), .unset, .unset, .unset, .unset, .unset, .unset, .unset, .unset] [(.long (0 : Int64))])) rfl (hb hby at_94) _ ?_
                  show Steps p.tables e below (s₁.setTop (mkF m 97 #[.val (.int p1), .val (.long p2), .second, .val (.int p3), .val (.long p4), .second, .val (.int p5), .val (.int (1 : Int32)), .val (.int (0 : Int32)), .val (.long (0 : Int64)), .second, .val (.int (p5 &&& (3 : Int32))), .unset, .unset, .unset, .unset, .unset, .unset, .unset, .unset] [(.long (-1 : Int64)), (.long (0 : Int64))])) _
                  refine XS.lxor X0.here hx rfl (hb hby at_97) rfl ?_
                  show Steps p.tables e below (s₁.setTop (mkF m 98 #[.val (.int p1), .val (.long p2), .second, .val (.int p3), .val (.long p4), .second, .val (.int p5), .val (.int (1 : Int32)), .val (.int (0 : Int32)), .val (.long (0 : Int64)), .second, .val (.int (p5 &&& (3 : Int32))), .unset, .unset, .unset, .unset, .unset, .unset, .unset, .unset] [(.long (-1 : Int64))])) _
                  refine XS.lstore X0.here hx rfl (hb hby at_98) rfl (l' := #[.val (.int p1), .val (.long p2), .second, .val (.int p3), .val (.long p4), .second, .val (.int p5), .val (.int (1 : Int32)), .val (.int (0 : Int32)), .val (.long (0 : Int64)), .second, .val (.int (p5 &&& (3 : Int32))), .val (.long (-1 : Int64)), .second, .unset, .unset, .unset, .unset, .unset, .unset]) rfl ?_
                  show Steps p.tables e below (s₁.setTop (mkF m 100 #[.val (.int p1), .val (.long p2), .second, .val (.int p3), .val (.long p4), .second, .val (.int p5), .val (.int (1 : Int32)), .val (.int (0 : Int32)), .val (.long (0 : Int64)), .second, .val (.int (p5 &&& (3 : Int32))), .val (.long (-1 : Int64)), .second, .unset, .unset, .unset, .unset, .unset, .unset] [])) _
                  exact k
              show Steps p.tables e below (s₁.setTop (mkF m 100 #[.val (.int p1), .val (.long p2), .second, .val (.int p3), .val (.long p4), .second, .val (.int p5), .val (.int (1 : Int32)), .val (.int (0 : Int32)), .val (.long (0 : Int64)), .second, .val (.int (p5 &&& (3 : Int32))), .val (.long (if (p5 &&& (3 : Int32)) = (2 : Int32) then ((0 : Int64) ^^^ ((1 : Int64) <<< ((((p5.toUInt32 >>> ((2 : Int32) &&& 31).toUInt32).toInt32) &&& (63 : Int32)) &&& 0x3f).toInt64)) else (-1 : Int64))), .second, .unset, .unset, .unset, .unset, .unset, .unset] [])) _
              exact k
          show Steps p.tables e below (s₁.setTop (mkF m 100 #[.val (.int p1), .val (.long p2), .second, .val (.int p3), .val (.long p4), .second, .val (.int p5), .val (.int (1 : Int32)), .val (.int (0 : Int32)), .val (.long (0 : Int64)), .second, .val (.int (p5 &&& (3 : Int32))), .val (.long (if (p5 &&& (3 : Int32)) = (1 : Int32) then (0 : Int64) else (if (p5 &&& (3 : Int32)) = (2 : Int32) then ((0 : Int64) ^^^ ((1 : Int64) <<< ((((p5.toUInt32 >>> ((2 : Int32) &&& 31).toUInt32).toInt32) &&& (63 : Int32)) &&& 0x3f).toInt64)) else (-1 : Int64)))), .second, .unset, .unset, .unset, .unset, .unset, .unset] [])) _
          exact k
      show Go p.tables e below s₁ (mkF m 100 #[.val (.int p1), .val (.long p2), .second, .val (.int p3), .val (.long p4), .second, .val (.int p5), .val (.int (1 : Int32)), .val (.int (0 : Int32)), .val (.long (0 : Int64)), .second, .val (.int (p5 &&& (3 : Int32))), .val (.long (if (p5 &&& (3 : Int32)) = (0 : Int32) then p4 else (if (p5 &&& (3 : Int32)) = (1 : Int32) then (0 : Int64) else (if (p5 &&& (3 : Int32)) = (2 : Int32) then ((0 : Int64) ^^^ ((1 : Int64) <<< ((((p5.toUInt32 >>> ((2 : Int32) &&& 31).toUInt32).toInt32) &&& (63 : Int32)) &&& 0x3f).toInt64)) else (-1 : Int64))))), .second, .unset, .unset, .unset, .unset, .unset, .unset] []) _
      obtain ⟨z46, hz46⟩ : ∃ z : Int64, z = (if (p5 &&& (3 : Int32)) = (0 : Int32) then p4 else (if (p5 &&& (3 : Int32)) = (1 : Int32) then (0 : Int64) else (if (p5 &&& (3 : Int32)) = (2 : Int32) then ((0 : Int64) ^^^ ((1 : Int64) <<< ((((p5.toUInt32 >>> ((2 : Int32) &&& 31).toUInt32).toInt32) &&& (63 : Int32)) &&& 0x3f).toInt64)) else (-1 : Int64)))) := ⟨_, rfl⟩
      rw [← hz46]
      show Go p.tables e below s₁ (mkF m 100 #[.val (.int p1), .val (.long p2), .second, .val (.int p3), .val (.long p4), .second, .val (.int p5), .val (.int (1 : Int32)), .val (.int (0 : Int32)), .val (.long (0 : Int64)), .second, .val (.int (p5 &&& (3 : Int32))), .val (.long z46), .second, .unset, .unset, .unset, .unset, .unset, .unset] []) _
      refine go1 (fun _ => XS.iload X0.here hx rfl (hb hby at_100) rfl) ?_
      show Go p.tables e below s₁ (mkF m 102 #[.val (.int p1), .val (.long p2), .second, .val (.int p3), .val (.long p4), .second, .val (.int p5), .val (.int (1 : Int32)), .val (.int (0 : Int32)), .val (.long (0 : Int64)), .second, .val (.int (p5 &&& (3 : Int32))), .val (.long z46), .second, .unset, .unset, .unset, .unset, .unset, .unset] [(.int (0 : Int32))]) _
      refine go1 (fun _ => XS.ifYes X0.here hx rfl (pc0 := 102) (pc' := 109) rfl (hb hby at_102) rfl ((if0 _ _).trans (teq (by decide : (0 : Int32) = (0 : Int32))).1) (by decide) (by decide)) ?_
      show Go p.tables e below s₁ (mkF m 109 #[.val (.int p1), .val (.long p2), .second, .val (.int p3), .val (.long p4), .second, .val (.int p5), .val (.int (1 : Int32)), .val (.int (0 : Int32)), .val (.long (0 : Int64)), .second, .val (.int (p5 &&& (3 : Int32))), .val (.long z46), .second, .unset, .unset, .unset, .unset, .unset, .unset] []) _
      refine go1 (fun _ => XS.lload X0.here hx rfl (hb hby at_109) rfl) ?_
      show Go p.tables e below s₁ (mkF m 111 #[.val (.int p1), .val (.long p2), .second, .val (.int p3), .val (.long p4), .second, .val (.int p5), .val (.int (1 : Int32)), .val (.int (0 : Int32)), .val (.long (0 : Int64)), .second, .val (.int (p5 &&& (3 : Int32))), .val (.long z46), .second, .unset, .unset, .unset, .unset, .unset, .unset] [(.long z46)]) _
      refine go1 (fun _ => XS.lstore X0.here hx rfl (hb hby at_111) rfl (l' := #[.val (.int p1), .val (.long p2), .second, .val (.int p3), .val (.long p4), .second, .val (.int p5), .val (.int (1 : Int32)), .val (.int (0 : Int32)), .val (.long (0 : Int64)), .second, .val (.int (p5 &&& (3 : Int32))), .val (.long z46), .second, .val (.long z46), .second, .unset, .unset, .unset, .unset]) rfl) ?_
      show Go p.tables e below s₁ (mkF m 113 #[.val (.int p1), .val (.long p2), .second, .val (.int p3), .val (.long p4), .second, .val (.int p5), .val (.int (1 : Int32)), .val (.int (0 : Int32)), .val (.long (0 : Int64)), .second, .val (.int (p5 &&& (3 : Int32))), .val (.long z46), .second, .val (.long z46), .second, .unset, .unset, .unset, .unset] []) _
      obtain ⟨T47, h47, X47, e47, E47, A47, D47, -, st47⟩ := newO X0 hx hZ hown (hw _ (List.mem_of_getElem? (i := 0) rfl)) (hw _ (List.mem_of_getElem? (i := 1) rfl)) (hw _ (List.mem_of_getElem? (i := 2) rfl)) e0 (g := (mkF m 113 #[.val (.int p1), .val (.long p2), .second, .val (.int p3), .val (.long p4), .second, .val (.int p5), .val (.int (1 : Int32)), .val (.int (0 : Int32)), .val (.long (0 : Int64)), .second, .val (.int (p5 &&& (3 : Int32))), .val (.long z46), .second, .val (.long z46), .second, .unset, .unset, .unset, .unset] [])) rfl (hb hby at_113) (by decide) (by decide)
      obtain ⟨b47, g47⟩ : ∃ z, z = h0.size := ⟨_, rfl⟩
      rw [← g47] at A47 D47 st47
      have g_b47 : n0 ≤ b47 := Nat.le_trans Z0 (Nat.le_of_eq g47.symm)
      have F_isDefault_b47 : Fld Z h47 b47 "com/example/stubwright/stubwright/idl/UnionType$Label" "isDefault" "Z" (.int (0 : Int32)) := D47 (Or.inr (hw _ (List.mem_of_getElem? (i := 15) rfl))) (ty := .boolean) (by decide)
      have F_value_b47 : Fld Z h47 b47 "com/example/stubwright/stubwright/idl/UnionType$Label" "value" "J" (.long (0 : Int64)) := D47 (Or.inr (hw _ (List.mem_of_getElem? (i := 17) rfl))) (ty := .long) (by decide)
      refine go1 st47 ?_
      show Go p.tables e below T47 (mkF m 116 #[.val (.int p1), .val (.long p2), .second, .val (.int p3), .val (.long p4), .second, .val (.int p5), .val (.int (1 : Int32)), .val (.int (0 : Int32)), .val (.long (0 : Int64)), .second, .val (.int (p5 &&& (3 : Int32))), .val (.long z46), .second, .val (.long z46), .second, .unset, .unset, .unset, .unset] [(.ref b47)]) _
      refine go1 (fun _ => XS.dup X47.here hx rfl (hb hby at_116) rfl rfl) ?_
      show Go p.tables e below T47 (mkF m 117 #[.val (.int p1), .val (.long p2), .second, .val (.int p3), .val (.long p4), .second, .val (.int p5), .val (.int (1 : Int32)), .val (.int (0 : Int32)), .val (.long (0 : Int64)), .second, .val (.int (p5 &&& (3 : Int32))), .val (.long z46), .second, .val (.long z46), .second, .unset, .unset, .unset, .unset] [(.ref b47), (.ref b47)]) _
      refine go1 (fun _ => XS.iload X47.here hx rfl (hb hby at_117) rfl) ?_
      show Go p.tables e below T47 (mkF m 119 #[.val (.int p1), .val (.long p2), .second, .val (.int p3), .val (.long p4), .second, .val (.int p5), .val (.int (1 : Int32)), .val (.int (0 : Int32)), .val (.long (0 : Int64)), .second, .val (.int (p5 &&& (3 : Int32))), .val (.long z46), .second, .val (.long z46), .second, .unset, .unset, .unset, .unset] [(.int (1 : Int32)), (.ref b47), (.ref b47)]) _
      refine go1 (fun _ => XS.lload X47.here hx rfl (hb hby at_119) rfl) ?_
      show Go p.tables e below T47 (mkF m 121 #[.val (.int p1), .val (.long p2), .second, .val (.int p3), .val (.long p4), .second, .val (.int p5), .val (.int (1 : Int32)), .val (.int (0 : Int32)), .val (.long (0 : Int64)), .second, .val (.int (p5 &&& (3 : Int32))), .val (.long z46), .second, .val (.long z46), .second, .unset, .unset, .unset, .unset] [(.long (0 : Int64)), (.int (1 : Int32)), (.ref b47), (.ref b47)]) _
      obtain ⟨_, _, ⟨T48, L48, k48, n48⟩, -, X48, ⟨Lc48, hQ48, l48, y48, z48⟩, st48⟩ := X47.specialBack hx (y := (⟨"com/example/stubwright/stubwright/idl/UnionType$Label", "<init>", "(ZJ)V"⟩ : MethodName)) rfl hown (mvT hZ (hw _ (List.mem_of_getElem? (i := 3) rfl))) (mvT hZ (hw _ (List.mem_of_getElem? (i := 4) rfl))) (mvT hZ (hw _ (List.mem_of_getElem? (i := 5) rfl))) (by decide) (backOf (W := 1) (rm1b l Z a0 hw [] b47 h47 n0 (Nat.le_trans Z0 E47.1) F_isDefault_b47 F_value_b47 A47 g_b47) hZ (hw _ (List.mem_of_getElem? (i := 5) rfl)) (hw _ (List.mem_of_getElem? (i := 2) rfl)) (by decide) (by decide)) (g := (mkF m 121 #[.val (.int p1), .val (.long p2), .second, .val (.int p3), .val (.long p4), .second, .val (.int p5), .val (.int (1 : Int32)), .val (.int (0 : Int32)), .val (.long (0 : Int64)), .second, .val (.int (p5 &&& (3 : Int32))), .val (.long z46), .second, .val (.long z46), .second, .unset, .unset, .unset, .unset] [(.long (0 : Int64)), (.int (1 : Int32)), (.ref b47), (.ref b47)])) rfl (by rw [hml]; rfl) (Steps.refl _) (a := b47) (argsL := [(.int (1 : Int32)), (.long (0 : Int64))]) (rest := [(.ref b47)]) (lenOf pd0_0 rfl) rfl (by show 2 * 0 + _ ≤ _; exact Nat.le_of_eq rfl) (hb hby at_121) (fun _ _ => ⟨rfl, e47, (by decide : 1 + 0 ≤ _), (by decide : 2 + 0 ≤ _)⟩)
      dsimp only [Pt.U, Pt.locs, Pt.cells, Pt.slots] at X48 l48 y48 z48 st48 hQ48
      subst l48 y48 z48
      obtain ⟨rfl, N48q, K48, G48_0, G48_1, G48_2⟩ := hQ48
      have N48 := Fr.app N0 N48q
      refine goT st48 ?_
      show Go p.tables e below T48 (mkF m 124 #[.val (.int p1), .val (.long p2), .second, .val (.int p3), .val (.long p4), .second, .val (.int p5), .val (.int (1 : Int32)), .val (.int (0 : Int32)), .val (.long (0 : Int64)), .second, .val (.int (p5 &&& (3 : Int32))), .val (.long z46), .second, .val (.long z46), .second, .unset, .unset, .unset, .unset] [(.ref b47)]) _
      refine go1 (fun _ => XS.astore X48.here hx rfl (hb hby at_124) rfl rfl (l' := #[.val (.int p1), .val (.long p2), .second, .val (.int p3), .val (.long p4), .second, .val (.int p5), .val (.int (1 : Int32)), .val (.int (0 : Int32)), .val (.long (0 : Int64)), .second, .val (.int (p5 &&& (3 : Int32))), .val (.long z46), .second, .val (.long z46), .second, .val (.ref b47), .unset, .unset, .unset]) rfl) ?_
      show Go p.tables e below T48 (mkF m 126 #[.val (.int p1), .val (.long p2), .second, .val (.int p3), .val (.long p4), .second, .val (.int p5), .val (.int (1 : Int32)), .val (.int (0 : Int32)), .val (.long (0 : Int64)), .second, .val (.int (p5 &&& (3 : Int32))), .val (.long z46), .second, .val (.long z46), .second, .val (.ref b47), .unset, .unset, .unset] []) _
      obtain ⟨T49, h49, X49, e49, E49, A49, D49, -, st49⟩ := newO X48 hx hZ hown (hw _ (List.mem_of_getElem? (i := 0) rfl)) (hw _ (List.mem_of_getElem? (i := 1) rfl)) (hw _ (List.mem_of_getElem? (i := 2) rfl)) rfl (g := (mkF m 126 #[.val (.int p1), .val (.long p2), .second, .val (.int p3), .val (.long p4), .second, .val (.int p5), .val (.int (1 : Int32)), .val (.int (0 : Int32)), .val (.long (0 : Int64)), .second, .val (.int (p5 &&& (3 : Int32))), .val (.long z46), .second, .val (.long z46), .second, .val (.ref b47), .unset, .unset, .unset] [])) rfl (hb hby at_126) (by decide) (by decide)
      obtain ⟨b49, g49⟩ : ∃ z, z = T48.heap.size := ⟨_, rfl⟩
      rw [← g49] at A49 D49 st49
      have g_b49 : n0 ≤ b49 := Nat.le_trans (Nat.le_trans (Nat.le_trans Z0 E47.1) K48.1) (Nat.le_of_eq g49.symm)
      have F_isDefault_b49 : Fld Z h49 b49 "com/example/stubwright/stubwright/idl/UnionType$Label" "isDefault" "Z" (.int (0 : Int32)) := D49 (Or.inr (hw _ (List.mem_of_getElem? (i := 15) rfl))) (ty := .boolean) (by decide)
      have F_value_b49 : Fld Z h49 b49 "com/example/stubwright/stubwright/idl/UnionType$Label" "value" "J" (.long (0 : Int64)) := D49 (Or.inr (hw _ (List.mem_of_getElem? (i := 17) rfl))) (ty := .long) (by decide)
      refine go1 st49 ?_
      show Go p.tables e below T49 (mkF m 129 #[.val (.int p1), .val (.long p2), .second, .val (.int p3), .val (.long p4), .second, .val (.int p5), .val (.int (1 : Int32)), .val (.int (0 : Int32)), .val (.long (0 : Int64)), .second, .val (.int (p5 &&& (3 : Int32))), .val (.long z46), .second, .val (.long z46), .second, .val (.ref b47), .unset, .unset, .unset] [(.ref b49)]) _
      refine go1 (fun _ => XS.dup X49.here hx rfl (hb hby at_129) rfl rfl) ?_
      show Go p.tables e below T49 (mkF m 130 #[.val (.int p1), .val (.long p2), .second, .val (.int p3), .val (.long p4), .second, .val (.int p5), .val (.int (1 : Int32)), .val (.int (0 : Int32)), .val (.long (0 : Int64)), .second, .val (.int (p5 &&& (3 : Int32))), .val (.long z46), .second, .val (.long z46), .second, .val (.ref b47), .unset, .unset, .unset] [(.ref b49), (.ref b49)]) _
      refine go1 (fun _ => XS.iload X49.here hx rfl (hb hby at_130) rfl) ?_
      show Go p.tables e below T49 (mkF m 132 #[.val (.int p1), .val (.long p2), .second, .val (.int p3), .val (.long p4), .second, .val (.int p5), .val (.int (1 : Int32)), .val (.int (0 : Int32)), .val (.long (0 : Int64)), .second, .val (.int (p5 &&& (3 : Int32))), .val (.long z46), .second, .val (.long z46), .second, .val (.ref b47), .unset, .unset, .unset] [(.int (0 : Int32)), (.ref b49), (.ref b49)]) _
      refine go1 (fun _ => XS.lload X49.here hx rfl (hb hby at_132) rfl) ?_
      show Go p.tables e below T49 (mkF m 134 #[.val (.int p1), .val (.long p2), .second, .val (.int p3), .val (.long p4), .second, .val (.int p5), .val (.int (1 : Int32)), .val (.int (0 : Int32)), .val (.long (0 : Int64)), .second, .val (.int (p5 &&& (3 : Int32))), .val (.long z46), .second, .val (.long z46), .second, .val (.ref b47), .unset, .unset, .unset] [(.long z46), (.int (0 : Int32)), (.ref b49), (.ref b49)]) _
      obtain ⟨_, _, ⟨T50, L50, k50, n50⟩, -, X50, ⟨Lc50, hQ50, l50, y50, z50⟩, st50⟩ := X49.specialBack hx (y := (⟨"com/example/stubwright/stubwright/idl/UnionType$Label", "<init>", "(ZJ)V"⟩ : MethodName)) rfl hown (mvT hZ (hw _ (List.mem_of_getElem? (i := 3) rfl))) (mvT hZ (hw _ (List.mem_of_getElem? (i := 4) rfl))) (mvT hZ (hw _ (List.mem_of_getElem? (i := 5) rfl))) (by decide) (backOf (W := 1) (rm1a l Z a0 hw [] b49 z46 h49 n0 (Nat.le_trans (Nat.le_trans (Nat.le_trans Z0 E47.1) K48.1) E49.1) F_isDefault_b49 F_value_b49 A49 g_b49) hZ (hw _ (List.mem_of_getElem? (i := 5) rfl)) (hw _ (List.mem_of_getElem? (i := 2) rfl)) (by decide) (by decide)) (g := (mkF m 134 #[.val (.int p1), .val (.long p2), .second, .val (.int p3), .val (.long p4), .second, .val (.int p5), .val (.int (1 : Int32)), .val (.int (0 : Int32)), .val (.long (0 : Int64)), .second, .val (.int (p5 &&& (3 : Int32))), .val (.long z46), .second, .val (.long z46), .second, .val (.ref b47), .unset, .unset, .unset] [(.long z46), (.int (0 : Int32)), (.ref b49), (.ref b49)])) rfl (by rw [hml]; rfl) (Steps.refl _) (a := b49) (argsL := [(.int (0 : Int32)), (.long z46)]) (rest := [(.ref b49)]) (lenOf pd0_0 rfl) rfl (by show 2 * 0 + _ ≤ _; exact Nat.le_of_eq rfl) (hb hby at_134) (fun _ _ => ⟨rfl, e49, (by decide : 2 + 0 ≤ _), (by decide : 4 + 0 ≤ _)⟩)
      dsimp only [Pt.U, Pt.locs, Pt.cells, Pt.slots] at X50 l50 y50 z50 st50 hQ50
      subst l50 y50 z50
      obtain ⟨rfl, N50q, K50, G50_0, G50_1, G50_2⟩ := hQ50
      have N50 := Fr.app N48 N50q
      refine goT st50 ?_
      show Go p.tables e below T50 (mkF m 137 #[.val (.int p1), .val (.long p2), .second, .val (.int p3), .val (.long p4), .second, .val (.int p5), .val (.int (1 : Int32)), .val (.int (0 : Int32)), .val (.long (0 : Int64)), .second, .val (.int (p5 &&& (3 : Int32))), .val (.long z46), .second, .val (.long z46), .second, .val (.ref b47), .unset, .unset, .unset] [(.ref b49)]) _
      refine go1 (fun _ => XS.astore X50.here hx rfl (hb hby at_137) rfl rfl (l' := #[.val (.int p1), .val (.long p2), .second, .val (.int p3), .val (.long p4), .second, .val (.int p5), .val (.int (1 : Int32)), .val (.int (0 : Int32)), .val (.long (0 : Int64)), .second, .val (.int (p5 &&& (3 : Int32))), .val (.long z46), .second, .val (.long z46), .second, .val (.ref b47), .val (.ref b49), .unset, .unset]) rfl) ?_
      show Go p.tables e below T50 (mkF m 139 #[.val (.int p1), .val (.long p2), .second, .val (.int p3), .val (.long p4), .second, .val (.int p5), .val (.int (1 : Int32)), .val (.int (0 : Int32)), .val (.long (0 : Int64)), .second, .val (.int (p5 &&& (3 : Int32))), .val (.long z46), .second, .val (.long z46), .second, .val (.ref b47), .val (.ref b49), .unset, .unset] []) _
      refine go1 (fun _ => XS.iload X50.here hx rfl (hb hby at_139) rfl) ?_
      show Go p.tables e below T50 (mkF m 141 #[.val (.int p1), .val (.long p2), .second, .val (.int p3), .val (.long p4), .second, .val (.int p5), .val (.int (1 : Int32)), .val (.int (0 : Int32)), .val (.long (0 : Int64)), .second, .val (.int (p5 &&& (3 : Int32))), .val (.long z46), .second, .val (.long z46), .second, .val (.ref b47), .val (.ref b49), .unset, .unset] [(.int p5)]) _
      refine go1 (fun _ => XS.bipush X50.here hx rfl (hb hby at_141)) ?_
      show Go p.tables e below T50 (mkF m 143 #[.val (.int p1), .val (.long p2), .second, .val (.int p3), .val (.long p4), .second, .val (.int p5), .val (.int (1 : Int32)), .val (.int (0 : Int32)), .val (.long (0 : Int64)), .second, .val (.int (p5 &&& (3 : Int32))), .val (.long z46), .second, .val (.long z46), .second, .val (.ref b47), .val (.ref b49), .unset, .unset] [(.int (8 : Int32)), (.int p5)]) _
      refine go1 (fun _ => XS.iushr X50.here hx rfl (hb hby at_143) rfl) ?_
      show Go p.tables e below T50 (mkF m 144 #[.val (.int p1), .val (.long p2), .second, .val (.int p3), .val (.long p4), .second, .val (.int p5), .val (.int (1 : Int32)), .val (.int (0 : Int32)), .val (.long (0 : Int64)), .second, .val (.int (p5 &&& (3 : Int32))), .val (.long z46), .second, .val (.long z46), .second, .val (.ref b47), .val (.ref b49), .unset, .unset] [(.int ((p5.toUInt32 >>> ((8 : Int32) &&& 31).toUInt32).toInt32))]) _
      refine go1 (fun _ => XS.iconst X50.here hx rfl (hb hby at_144)) ?_
      show Go p.tables e below T50 (mkF m 145 #[.val (.int p1), .val (.long p2), .second, .val (.int p3), .val (.long p4), .second, .val (.int p5), .val (.int (1 : Int32)), .val (.int (0 : Int32)), .val (.long (0 : Int64)), .second, .val (.int (p5 &&& (3 : Int32))), .val (.long z46), .second, .val (.long z46), .second, .val (.ref b47), .val (.ref b49), .unset, .unset] [(.int (3 : Int32)), (.int ((p5.toUInt32 >>> ((8 : Int32) &&& 31).toUInt32).toInt32))]) _
      refine go1 (fun _ => XS.iand X50.here hx rfl (hb hby at_145) rfl) ?_
      show Go p.tables e below T50 (mkF m 146 #[.val (.int p1), .val (.long p2), .second, .val (.int p3), .val (.long p4), .second, .val (.int p5), .val (.int (1 : Int32)), .val (.int (0 : Int32)), .val (.long (0 : Int64)), .second, .val (.int (p5 &&& (3 : Int32))), .val (.long z46), .second, .val (.long z46), .second, .val (.ref b47), .val (.ref b49), .unset, .unset] [(.int (((p5.toUInt32 >>> ((8 : Int32) &&& 31).toUInt32).toInt32) &&& (3 : Int32)))]) _
      refine go1 (fun _ => XS.istore X50.here hx rfl (hb hby at_146) rfl (l' := #[.val (.int p1), .val (.long p2), .second, .val (.int p3), .val (.long p4), .second, .val (.int p5), .val (.int (1 : Int32)), .val (.int (0 : Int32)), .val (.long (0 : Int64)), .second, .val (.int (p5 &&& (3 : Int32))), .val (.long z46), .second, .val (.long z46), .second, .val (.ref b47), .val (.ref b49), .val (.int (((p5.toUInt32 >>> ((8 : Int32) &&& 31).toUInt32).toInt32) &&& (3 : Int32))), .unset]) rfl) ?_
      show Go p.tables e below T50 (mkF m 148 #[.val (.int p1), .val (.long p2), .second, .val (.int p3), .val (.long p4), .second, .val (.int p5), .val (.int (1 : Int32)), .val (.int (0 : Int32)), .val (.long (0 : Int64)), .second, .val (.int (p5 &&& (3 : Int32))), .val (.long z46), .second, .val (.long z46), .second, .val (.ref b47), .val (.ref b49), .val (.int (((p5.toUInt32 >>> ((8 : Int32) &&& 31).toUInt32).toInt32) &&& (3 : Int32))), .unset] []) _
      refine go1 (fun _ => XS.iload X50.here hx rfl (hb hby at_148) rfl) ?_
      show Go p.tables e below T50 (mkF m 150 #[.val (.int p1), .val (.long p2), .second, .val (.int p3), .val (.long p4), .second, .val (.int p5), .val (.int (1 : Int32)), .val (.int (0 : Int32)), .val (.long (0 : Int64)), .second, .val (.int (p5 &&& (3 : Int32))), .val (.long z46), .second, .val (.long z46), .second, .val (.ref b47), .val (.ref b49), .val (.int (((p5.toUInt32 >>> ((8 : Int32) &&& 31).toUInt32).toInt32) &&& (3 : Int32))), .unset] [(.int (((p5.toUInt32 >>> ((8 : Int32) &&& 31).toUInt32).toInt32) &&& (3 : Int32)))]) _
      by_cases hc51 : (((p5.toUInt32 >>> ((8 : Int32) &&& 31).toUInt32).toInt32) &&& (3 : Int32)) = (0 : Int32)
      · skip
        refine go1 (fun _ => XS.ifNo X50.here hx rfl (hb hby at_150) rfl ((if0 _ _).trans (teq hc51).2)) ?_
        show Go p.tables e below T50 (mkF m 153 #[.val (.int p1), .val (.long p2), .second, .val (.int p3), .val (.long p4), .second, .val (.int p5), .val (.int (1 : Int32)), .val (.int (0 : Int32)), .val (.long (0 : Int64)), .second, .val (.int (p5 &&& (3 : Int32))), .val (.long z46), .second, .val (.long z46), .second, .val (.ref b47), .val (.ref b49), .val (.int (((p5.toUInt32 >>> ((8 : Int32) &&& 31).toUInt32).toInt32) &&& (3 : Int32))), .unset] []) _
        refine go1 (fun _ => XS.iload X50.here hx rfl (hb hby at_153) rfl) ?_
        show Go p.tables e below T50 (mkF m 155 #[.val (.int p1), .val (.long p2), .second, .val (.int p3), .val (.long p4), .second, .val (.int p5), .val (.int (1 : Int32)), .val (.int (0 : Int32)), .val (.long (0 : Int64)), .second, .val (.int (p5 &&& (3 : Int32))), .val (.long z46), .second, .val (.long z46), .second, .val (.ref b47), .val (.ref b49), .val (.int (((p5.toUInt32 >>> ((8 : Int32) &&& 31).toUInt32).toInt32) &&& (3 : Int32))), .unset] [(.int (1 : Int32))]) _
        refine go1 (fun _ => XS.iload X50.here hx rfl (hb hby at_155) rfl) ?_
        show Go p.tables e below T50 (mkF m 157 #[.val (.int p1), .val (.long p2), .second, .val (.int p3), .val (.long p4), .second, .val (.int p5), .val (.int (1 : Int32)), .val (.int (0 : Int32)), .val (.long (0 : Int64)), .second, .val (.int (p5 &&& (3 : Int32))), .val (.long z46), .second, .val (.long z46), .second, .val (.ref b47), .val (.ref b49), .val (.int (((p5.toUInt32 >>> ((8 : Int32) &&& 31).toUInt32).toInt32) &&& (3 : Int32))), .unset] [(.int (0 : Int32)), (.int (1 : Int32))]) _
        refine go1 (fun _ => XS.icmpYes X50.here hx rfl (pc0 := 157) (pc' := 172) rfl (hb hby at_157) rfl (feq (by decide : ¬ ((1 : Int32) = (0 : Int32)))).2 (by decide) (by decide)) ?_
        show Go p.tables e below T50 (mkF m 172 #[.val (.int p1), .val (.long p2), .second, .val (.int p3), .val (.long p4), .second, .val (.int p5), .val (.int (1 : Int32)), .val (.int (0 : Int32)), .val (.long (0 : Int64)), .second, .val (.int (p5 &&& (3 : Int32))), .val (.long z46), .second, .val (.long z46), .second, .val (.ref b47), .val (.ref b49), .val (.int (((p5.toUInt32 >>> ((8 : Int32) &&& 31).toUInt32).toInt32) &&& (3 : Int32))), .unset] []) _
        refine go1 (fun _ => XS.iconst X50.here hx rfl (hb hby at_172)) ?_
        show Go p.tables e below T50 (mkF m 173 #[.val (.int p1), .val (.long p2), .second, .val (.int p3), .val (.long p4), .second, .val (.int p5), .val (.int (1 : Int32)), .val (.int (0 : Int32)), .val (.long (0 : Int64)), .second, .val (.int (p5 &&& (3 : Int32))), .val (.long z46), .second, .val (.long z46), .second, .val (.ref b47), .val (.ref b49), .val (.int (((p5.toUInt32 >>> ((8 : Int32) &&& 31).toUInt32).toInt32) &&& (3 : Int32))), .unset] [(.int (0 : Int32))]) _
        refine go1 (fun _ => XS.istore X50.here hx rfl (hb hby at_173) rfl (l' := #[.val (.int p1), .val (.long p2), .second, .val (.int p3), .val (.long p4), .second, .val (.int p5), .val (.int (1 : Int32)), .val (.int (0 : Int32)), .val (.long (0 : Int64)), .second, .val (.int (p5 &&& (3 : Int32))), .val (.long z46), .second, .val (.long z46), .second, .val (.ref b47), .val (.ref b49), .val (.int (((p5.toUInt32 >>> ((8 : Int32) &&& 31).toUInt32).toInt32) &&& (3 : Int32))), .val (.int (0 : Int32))]) rfl) ?_
        show Go p.tables e below T50 (mkF m 175 #[.val (.int p1), .val (.long p2), .second, .val (.int p3), .val (.long p4), .second, .val (.int p5), .val (.int (1 : Int32)), .val (.int (0 : Int32)), .val (.long (0 : Int64)), .second, .val (.int (p5 &&& (3 : Int32))), .val (.long z46), .second, .val (.long z46), .second, .val (.ref b47), .val (.ref b49), .val (.int (((p5.toUInt32 >>> ((8 : Int32) &&& 31).toUInt32).toInt32) &&& (3 : Int32))), .val (.int (0 : Int32))] []) _
        refine go1 (fun _ => XS.aload X50.here hx rfl (hb hby at_175) rfl rfl) ?_
        show Go p.tables e below T50 (mkF m 177 #[.val (.int p1), .val (.long p2), .second, .val (.int p3), .val (.long p4), .second, .val (.int p5), .val (.int (1 : Int32)), .val (.int (0 : Int32)), .val (.long (0 : Int64)), .second, .val (.int (p5 &&& (3 : Int32))), .val (.long z46), .second, .val (.long z46), .second, .val (.ref b47), .val (.ref b49), .val (.int (((p5.toUInt32 >>> ((8 : Int32) &&& 31).toUInt32).toInt32) &&& (3 : Int32))), .val (.int (0 : Int32))] [(.ref b47)]) _
        refine go1 (fun _ => XS.aload X50.here hx rfl (hb hby at_177) rfl rfl) ?_
        show Go p.tables e below T50 (mkF m 179 #[.val (.int p1), .val (.long p2), .second, .val (.int p3), .val (.long p4), .second, .val (.int p5), .val (.int (1 : Int32)), .val (.int (0 : Int32)), .val (.long (0 : Int64)), .second, .val (.int (p5 &&& (3 : Int32))), .val (.long z46), .second, .val (.long z46), .second, .val (.ref b47), .val (.ref b49), .val (.int (((p5.toUInt32 >>> ((8 : Int32) &&& 31).toUInt32).toInt32) &&& (3 : Int32))), .val (.int (0 : Int32))] [(.ref b49), (.ref b47)]) _
        obtain ⟨cq52, kq52, q52a, q52b, q52c⟩ := isOf hZ rfl ((G48_0.ext E49).keep K50)
        obtain ⟨_, _, ⟨T52, L52, k52, n52⟩, -, X52, ⟨Lc52, hQ52, l52, y52, z52⟩, st52⟩ := X50.virtualBack hx (y := (⟨"com/example/stubwright/stubwright/idl/UnionType$Label", "equals", "(Ljava/lang/Object;)Z"⟩ : MethodName)) (z := (⟨"com/example/stubwright/stubwright/idl/UnionType$Label", "equals", "(Ljava/lang/Object;)Z"⟩ : MethodName)) hown (mvT hZ (hw _ (List.mem_of_getElem? (i := 18) rfl))) (mvT hZ (hw _ (List.mem_of_getElem? (i := 19) rfl))) (notFace_of_selects (args := #[]) (mvT hZ (hw _ (List.mem_of_getElem? (i := 21) rfl)))) (mvT hZ (hw _ (List.mem_of_getElem? (i := 21) rfl))) (mvT hZ (hw _ (List.mem_of_getElem? (i := 20) rfl))) (by decide) (backOf (W := 0) (rm4a l Z a0 hw [] b47 b49 (1 : Int32) (0 : Int64) (0 : Int32) z46 T50.heap n0 (Nat.le_trans (Nat.le_trans (Nat.le_trans (Nat.le_trans Z0 E47.1) K48.1) E49.1) K50.1) G50_0 ((G48_1.ext E49).keep K50 (ninS (Nat.ne_of_lt (Nat.lt_of_lt_of_le G48_2.lt (Nat.le_of_eq g49.symm))) nin0)) ((G48_2.ext E49).keep K50 (ninS (Nat.ne_of_lt (Nat.lt_of_lt_of_le G48_2.lt (Nat.le_of_eq g49.symm))) nin0)) G50_1 G50_2) hZ (hw _ (List.mem_of_getElem? (i := 22) rfl)) (hw _ (List.mem_of_getElem? (i := 2) rfl)) (by decide) (by decide)) q52a q52c (g := (mkF m 179 #[.val (.int p1), .val (.long p2), .second, .val (.int p3), .val (.long p4), .second, .val (.int p5), .val (.int (1 : Int32)), .val (.int (0 : Int32)), .val (.long (0 : Int64)), .second, .val (.int (p5 &&& (3 : Int32))), .val (.long z46), .second, .val (.long z46), .second, .val (.ref b47), .val (.ref b49), .val (.int (((p5.toUInt32 >>> ((8 : Int32) &&& 31).toUInt32).toInt32) &&& (3 : Int32))), .val (.int (0 : Int32))] [(.ref b49), (.ref b47)])) rfl (by rw [hml]; rfl) (Steps.refl _) (argsL := [(.ref b49)]) (rest := []) (lenOf pd0_1 rfl) rfl (by show 2 * 0 + _ ≤ _; exact Nat.le_of_eq rfl) (hb hby at_179) (fun _ _ => ⟨rfl, rfl, (by decide : 2 + 0 ≤ _), (by decide : 4 + 0 ≤ _)⟩)
        dsimp only [Pt.U, Pt.locs, Pt.cells, Pt.slots] at X52 l52 y52 z52 st52 hQ52
        subst l52 y52 z52
        obtain ⟨rfl, N52q, e52⟩ := hQ52
        have N52 := Fr.app N50 N52q
        refine goT st52 ?_
        show Go p.tables e below T52 (mkF m 182 #[.val (.int p1), .val (.long p2), .second, .val (.int p3), .val (.long p4), .second, .val (.int p5), .val (.int (1 : Int32)), .val (.int (0 : Int32)), .val (.long (0 : Int64)), .second, .val (.int (p5 &&& (3 : Int32))), .val (.long z46), .second, .val (.long z46), .second, .val (.ref b47), .val (.ref b49), .val (.int (((p5.toUInt32 >>> ((8 : Int32) &&& 31).toUInt32).toInt32) &&& (3 : Int32))), .val (.int (0 : Int32))] [(.int (own_4a (1 : Int32) (0 : Int64) (0 : Int32) z46))]) _
        refine go1 (fun _ => XS.iload X52.here hx rfl (hb hby at_182) rfl) ?_
        show Go p.tables e below T52 (mkF m 184 #[.val (.int p1), .val (.long p2), .second, .val (.int p3), .val (.long p4), .second, .val (.int p5), .val (.int (1 : Int32)), .val (.int (0 : Int32)), .val (.long (0 : Int64)), .second, .val (.int (p5 &&& (3 : Int32))), .val (.long z46), .second, .val (.long z46), .second, .val (.ref b47), .val (.ref b49), .val (.int (((p5.toUInt32 >>> ((8 : Int32) &&& 31).toUInt32).toInt32) &&& (3 : Int32))), .val (.int (0 : Int32))] [(.int (0 : Int32)), (.int (own_4a (1 : Int32) (0 : Int64) (0 : Int32) z46))]) _
        refine go1 (fun _ => XS.icmpNo X52.here hx rfl (hb hby at_184) rfl (teq (show (own_4a (1 : Int32) (0 : Int64) (0 : Int32) z46) = (0 : Int32) from by first | decide | (simp [own_4a, hc51]; done) | (simp [own_4a, eq_comm, hc51]; done))).2) ?_
        show Go p.tables e below T52 (mkF m 187 #[.val (.int p1), .val (.long p2), .second, .val (.int p3), .val (.long p4), .second, .val (.int p5), .val (.int (1 : Int32)), .val (.int (0 : Int32)), .val (.long (0 : Int64)), .second, .val (.int (p5 &&& (3 : Int32))), .val (.long z46), .second, .val (.long z46), .second, .val (.ref b47), .val (.ref b49), .val (.int (((p5.toUInt32 >>> ((8 : Int32) &&& 31).toUInt32).toInt32) &&& (3 : Int32))), .val (.int (0 : Int32))] []) _
        refine go1 (fun _ => XS.aload X52.here hx rfl (hb hby at_187) rfl rfl) ?_
        show Go p.tables e below T52 (mkF m 189 #[.val (.int p1), .val (.long p2), .second, .val (.int p3), .val (.long p4), .second, .val (.int p5), .val (.int (1 : Int32)), .val (.int (0 : Int32)), .val (.long (0 : Int64)), .second, .val (.int (p5 &&& (3 : Int32))), .val (.long z46), .second, .val (.long z46), .second, .val (.ref b47), .val (.ref b49), .val (.int (((p5.toUInt32 >>> ((8 : Int32) &&& 31).toUInt32).toInt32) &&& (3 : Int32))), .val (.int (0 : Int32))] [(.ref b49)]) _
        refine go1 (fun _ => XS.aload X52.here hx rfl (hb hby at_189) rfl rfl) ?_
        show Go p.tables e below T52 (mkF m 191 #[.val (.int p1), .val (.long p2), .second, .val (.int p3), .val (.long p4), .second, .val (.int p5), .val (.int (1 : Int32)), .val (.int (0 : Int32)), .val (.long (0 : Int64)), .second, .val (.int (p5 &&& (3 : Int32))), .val (.long z46), .second, .val (.long z46), .second, .val (.ref b47), .val (.ref b49), .val (.int (((p5.toUInt32 >>> ((8 : Int32) &&& 31).toUInt32).toInt32) &&& (3 : Int32))), .val (.int (0 : Int32))] [(.ref b47), (.ref b49)]) _
        obtain ⟨cq53, kq53, q53a, q53b, q53c⟩ := isOf hZ e52 G50_0
        obtain ⟨_, _, ⟨T53, L53, k53, n53⟩, -, X53, ⟨Lc53, hQ53, l53, y53, z53⟩, st53⟩ := X52.virtualBack hx (y := (⟨"com/example/stubwright/stubwright/idl/UnionType$Label", "equals", "(Ljava/lang/Object;)Z"⟩ : MethodName)) (z := (⟨"com/example/stubwright/stubwright/idl/UnionType$Label", "equals", "(Ljava/lang/Object;)Z"⟩ : MethodName)) hown (mvT hZ (hw _ (List.mem_of_getElem? (i := 18) rfl))) (mvT hZ (hw _ (List.mem_of_getElem? (i := 19) rfl))) (notFace_of_selects (args := #[]) (mvT hZ (hw _ (List.mem_of_getElem? (i := 21) rfl)))) (mvT hZ (hw _ (List.mem_of_getElem? (i := 21) rfl))) (mvT hZ (hw _ (List.mem_of_getElem? (i := 20) rfl))) (by decide) (backOf (W := 0) (rm4a l Z a0 hw [] b49 b47 (0 : Int32) z46 (1 : Int32) (0 : Int64) T50.heap n0 (Nat.le_trans (Nat.le_trans (Nat.le_trans (Nat.le_trans Z0 E47.1) K48.1) E49.1) K50.1) ((G48_0.ext E49).keep K50) G50_1 G50_2 ((G48_1.ext E49).keep K50 (ninS (Nat.ne_of_lt (Nat.lt_of_lt_of_le G48_2.lt (Nat.le_of_eq g49.symm))) nin0)) ((G48_2.ext E49).keep K50 (ninS (Nat.ne_of_lt (Nat.lt_of_lt_of_le G48_2.lt (Nat.le_of_eq g49.symm))) nin0))) hZ (hw _ (List.mem_of_getElem? (i := 22) rfl)) (hw _ (List.mem_of_getElem? (i := 2) rfl)) (by decide) (by decide)) q53a q53c (g := (mkF m 191 #[.val (.int p1), .val (.long p2), .second, .val (.int p3), .val (.long p4), .second, .val (.int p5), .val (.int (1 : Int32)), .val (.int (0 : Int32)), .val (.long (0 : Int64)), .second, .val (.int (p5 &&& (3 : Int32))), .val (.long z46), .second, .val (.long z46), .second, .val (.ref b47), .val (.ref b49), .val (.int (((p5.toUInt32 >>> ((8 : Int32) &&& 31).toUInt32).toInt32) &&& (3 : Int32))), .val (.int (0 : Int32))] [(.ref b47), (.ref b49)])) rfl (by rw [hml]; rfl) (Steps.refl _) (argsL := [(.ref b47)]) (rest := []) (lenOf pd0_1 rfl) rfl (by show 2 * 0 + _ ≤ _; exact Nat.le_of_eq rfl) (hb hby at_191) (fun _ _ => ⟨rfl, e52, (by decide : 2 + 0 ≤ _), (by decide : 4 + 0 ≤ _)⟩)
        dsimp only [Pt.U, Pt.locs, Pt.cells, Pt.slots] at X53 l53 y53 z53 st53 hQ53
        subst l53 y53 z53
        obtain ⟨rfl, N53q, e53⟩ := hQ53
        have N53 := Fr.app N52 N53q
        refine goT st53 ?_
        show Go p.tables e below T53 (mkF m 194 #[.val (.int p1), .val (.long p2), .second, .val (.int p3), .val (.long p4), .second, .val (.int p5), .val (.int (1 : Int32)), .val (.int (0 : Int32)), .val (.long (0 : Int64)), .second, .val (.int (p5 &&& (3 : Int32))), .val (.long z46), .second, .val (.long z46), .second, .val (.ref b47), .val (.ref b49), .val (.int (((p5.toUInt32 >>> ((8 : Int32) &&& 31).toUInt32).toInt32) &&& (3 : Int32))), .val (.int (0 : Int32))] [(.int (own_4a (0 : Int32) z46 (1 : Int32) (0 : Int64)))]) _
        refine go1 (fun _ => XS.iload X53.here hx rfl (hb hby at_194) rfl) ?_
        show Go p.tables e below T53 (mkF m 196 #[.val (.int p1), .val (.long p2), .second, .val (.int p3), .val (.long p4), .second, .val (.int p5), .val (.int (1 : Int32)), .val (.int (0 : Int32)), .val (.long (0 : Int64)), .second, .val (.int (p5 &&& (3 : Int32))), .val (.long z46), .second, .val (.long z46), .second, .val (.ref b47), .val (.ref b49), .val (.int (((p5.toUInt32 >>> ((8 : Int32) &&& 31).toUInt32).toInt32) &&& (3 : Int32))), .val (.int (0 : Int32))] [(.int (0 : Int32)), (.int (own_4a (0 : Int32) z46 (1 : Int32) (0 : Int64)))]) _
        refine go1 (fun _ => XS.icmpNo X53.here hx rfl (hb hby at_196) rfl (teq (show (own_4a (0 : Int32) z46 (1 : Int32) (0 : Int64)) = (0 : Int32) from by first | decide | (simp [own_4a, hc51]; done) | (simp [own_4a, eq_comm, hc51]; done))).2) ?_
        show Go p.tables e below T53 (mkF m 199 #[.val (.int p1), .val (.long p2), .second, .val (.int p3), .val (.long p4), .second, .val (.int p5), .val (.int (1 : Int32)), .val (.int (0 : Int32)), .val (.long (0 : Int64)), .second, .val (.int (p5 &&& (3 : Int32))), .val (.long z46), .second, .val (.long z46), .second, .val (.ref b47), .val (.ref b49), .val (.int (((p5.toUInt32 >>> ((8 : Int32) &&& 31).toUInt32).toInt32) &&& (3 : Int32))), .val (.int (0 : Int32))] []) _
        refine go1 (fun _ => XS.iconst X53.here hx rfl (hb hby at_199)) ?_
        show Go p.tables e below T53 (mkF m 200 #[.val (.int p1), .val (.long p2), .second, .val (.int p3), .val (.long p4), .second, .val (.int p5), .val (.int (1 : Int32)), .val (.int (0 : Int32)), .val (.long (0 : Int64)), .second, .val (.int (p5 &&& (3 : Int32))), .val (.long z46), .second, .val (.long z46), .second, .val (.ref b47), .val (.ref b49), .val (.int (((p5.toUInt32 >>> ((8 : Int32) &&& 31).toUInt32).toInt32) &&& (3 : Int32))), .val (.int (0 : Int32))] [(.int (1 : Int32))]) _
        refine go1 (fun _ => XS.goto X53.here hx rfl (pc0 := 200) (pc' := 204) rfl (hb hby at_200) (by decide) (by decide)) ?_
        show Go p.tables e below T53 (mkF m 204 #[.val (.int p1), .val (.long p2), .second, .val (.int p3), .val (.long p4), .second, .val (.int p5), .val (.int (1 : Int32)), .val (.int (0 : Int32)), .val (.long (0 : Int64)), .second, .val (.int (p5 &&& (3 : Int32))), .val (.long z46), .second, .val (.long z46), .second, .val (.ref b47), .val (.ref b49), .val (.int (((p5.toUInt32 >>> ((8 : Int32) &&& 31).toUInt32).toInt32) &&& (3 : Int32))), .val (.int (0 : Int32))] [(.int (1 : Int32))]) _
        refine goR X53 (BodyLoose.notSynchronized Bd) (v := (some (.int (1 : Int32)))) (fun h => by rw [Bd.returns] at h; cases h) (Q0 Z p1 p2 p3 p4 p5 a_cache h0 n0) (fun fs hr => retN X53 hx (t := .boolean) Bd.returns (by simp) (hb hby at_204) hr) (by decide) (by decide) ?_
        show Q0 Z p1 p2 p3 p4 p5 a_cache h0 n0 _ T53.heap _
        rw [e53]
        exact ⟨rfl, N53⟩
      · skip
        refine go1 (fun _ => XS.ifYes X50.here hx rfl (pc0 := 150) (pc' := 205) rfl (hb hby at_150) rfl ((if0 _ _).trans (feq hc51).2) (by decide) (by decide)) ?_
        show Go p.tables e below T50 (mkF m 205 #[.val (.int p1), .val (.long p2), .second, .val (.int p3), .val (.long p4), .second, .val (.int p5), .val (.int (1 : Int32)), .val (.int (0 : Int32)), .val (.long (0 : Int64)), .second, .val (.int (p5 &&& (3 : Int32))), .val (.long z46), .second, .val (.long z46), .second, .val (.ref b47), .val (.ref b49), .val (.int (((p5.toUInt32 >>> ((8 : Int32) &&& 31).toUInt32).toInt32) &&& (3 : Int32))), .unset] []) _
        refine go1 (fun _ => XS.iload X50.here hx rfl (hb hby at_205) rfl) ?_
        show Go p.tables e below T50 (mkF m 207 #[.val (.int p1), .val (.long p2), .second, .val (.int p3), .val (.long p4), .second, .val (.int p5), .val (.int (1 : Int32)), .val (.int (0 : Int32)), .val (.long (0 : Int64)), .second, .val (.int (p5 &&& (3 : Int32))), .val (.long z46), .second, .val (.long z46), .second, .val (.ref b47), .val (.ref b49), .val (.int (((p5.toUInt32 >>> ((8 : Int32) &&& 31).toUInt32).toInt32) &&& (3 : Int32))), .unset] [(.int (((p5.toUInt32 >>> ((8 : Int32) &&& 31).toUInt32).toInt32) &&& (3 : Int32)))]) _
        refine go1 (fun _ => XS.iconst X50.here hx rfl (hb hby at_207)) ?_
        show Go p.tables e below T50 (mkF m 208 #[.val (.int p1), .val (.long p2), .second, .val (.int p3), .val (.long p4), .second, .val (.int p5), .val (.int (1 : Int32)), .val (.int (0 : Int32)), .val (.long (0 : Int64)), .second, .val (.int (p5 &&& (3 : Int32))), .val (.long z46), .second, .val (.long z46), .second, .val (.ref b47), .val (.ref b49), .val (.int (((p5.toUInt32 >>> ((8 : Int32) &&& 31).toUInt32).toInt32) &&& (3 : Int32))), .unset] [(.int (1 : Int32)), (.int (((p5.toUInt32 >>> ((8 : Int32) &&& 31).toUInt32).toInt32) &&& (3 : Int32)))]) _
        by_cases hc54 : (((p5.toUInt32 >>> ((8 : Int32) &&& 31).toUInt32).toInt32) &&& (3 : Int32)) = (1 : Int32)
        · skip
          refine go1 (fun _ => XS.icmpNo X50.here hx rfl (hb hby at_208) rfl (teq hc54).2) ?_
          show Go p.tables e below T50 (mkF m 211 #[.val (.int p1), .val (.long p2), .second, .val (.int p3), .val (.long p4), .second, .val (.int p5), .val (.int (1 : Int32)), .val (.int (0 : Int32)), .val (.long (0 : Int64)), .second, .val (.int (p5 &&& (3 : Int32))), .val (.long z46), .second, .val (.long z46), .second, .val (.ref b47), .val (.ref b49), .val (.int (((p5.toUInt32 >>> ((8 : Int32) &&& 31).toUInt32).toInt32) &&& (3 : Int32))), .unset] []) _
          refine go1 (fun _ => XS.aconstNull X50.here hx rfl (hb hby at_211)) ?_
          show Go p.tables e below T50 (mkF m 212 #[.val (.int p1), .val (.long p2), .second, .val (.int p3), .val (.long p4), .second, .val (.int p5), .val (.int (1 : Int32)), .val (.int (0 : Int32)), .val (.long (0 : Int64)), .second, .val (.int (p5 &&& (3 : Int32))), .val (.long z46), .second, .val (.long z46), .second, .val (.ref b47), .val (.ref b49), .val (.int (((p5.toUInt32 >>> ((8 : Int32) &&& 31).toUInt32).toInt32) &&& (3 : Int32))), .unset] [.null]) _
          refine go1 (fun _ => XS.astore X50.here hx rfl (hb hby at_212) rfl rfl (l' := #[.val (.int p1), .val (.long p2), .second, .val (.int p3), .val (.long p4), .second, .val (.int p5), .val (.int (1 : Int32)), .val (.int (0 : Int32)), .val (.long (0 : Int64)), .second, .val (.int (p5 &&& (3 : Int32))), .val (.long z46), .second, .val (.long z46), .second, .val (.ref b47), .val (.ref b49), .val (.int (((p5.toUInt32 >>> ((8 : Int32) &&& 31).toUInt32).toInt32) &&& (3 : Int32))), .val .null]) rfl) ?_
          show Go p.tables e below T50 (mkF m 214 #[.val (.int p1), .val (.long p2), .second, .val (.int p3), .val (.long p4), .second, .val (.int p5), .val (.int (1 : Int32)), .val (.int (0 : Int32)), .val (.long (0 : Int64)), .second, .val (.int (p5 &&& (3 : Int32))), .val (.long z46), .second, .val (.long z46), .second, .val (.ref b47), .val (.ref b49), .val (.int (((p5.toUInt32 >>> ((8 : Int32) &&& 31).toUInt32).toInt32) &&& (3 : Int32))), .val .null] []) _
          refine go1 (fun _ => XS.aload X50.here hx rfl (hb hby at_214) rfl rfl) ?_
          show Go p.tables e below T50 (mkF m 216 #[.val (.int p1), .val (.long p2), .second, .val (.int p3), .val (.long p4), .second, .val (.int p5), .val (.int (1 : Int32)), .val (.int (0 : Int32)), .val (.long (0 : Int64)), .second, .val (.int (p5 &&& (3 : Int32))), .val (.long z46), .second, .val (.long z46), .second, .val (.ref b47), .val (.ref b49), .val (.int (((p5.toUInt32 >>> ((8 : Int32) &&& 31).toUInt32).toInt32) &&& (3 : Int32))), .val .null] [(.ref b47)]) _
          refine go1 (fun _ => XS.aload X50.here hx rfl (hb hby at_216) rfl rfl) ?_
          show Go p.tables e below T50 (mkF m 218 #[.val (.int p1), .val (.long p2), .second, .val (.int p3), .val (.long p4), .second, .val (.int p5), .val (.int (1 : Int32)), .val (.int (0 : Int32)), .val (.long (0 : Int64)), .second, .val (.int (p5 &&& (3 : Int32))), .val (.long z46), .second, .val (.long z46), .second, .val (.ref b47), .val (.ref b49), .val (.int (((p5.toUInt32 >>> ((8 : Int32) &&& 31).toUInt32).toInt32) &&& (3 : Int32))), .val .null] [.null, (.ref b47)]) _
          obtain ⟨cq55, kq55, q55a, q55b, q55c⟩ := isOf hZ rfl ((G48_0.ext E49).keep K50)
          obtain ⟨_, _, ⟨T55, L55, k55, n55⟩, -, X55, ⟨Lc55, hQ55, l55, y55, z55⟩, st55⟩ := X50.virtualBack hx (y := (⟨"com/example/stubwright/stubwright/idl/UnionType$Label", "equals", "(Ljava/lang/Object;)Z"⟩ : MethodName)) (z := (⟨"com/example/stubwright/stubwright/idl/UnionType$Label", "equals", "(Ljava/lang/Object;)Z"⟩ : MethodName)) hown (mvT hZ (hw _ (List.mem_of_getElem? (i := 18) rfl))) (mvT hZ (hw _ (List.mem_of_getElem? (i := 19) rfl))) (notFace_of_selects (args := #[]) (mvT hZ (hw _ (List.mem_of_getElem? (i := 21) rfl)))) (mvT hZ (hw _ (List.mem_of_getElem? (i := 21) rfl))) (mvT hZ (hw _ (List.mem_of_getElem? (i := 20) rfl))) (by decide) (backOf (W := 0) (rm4b l Z a0 hw [] b47 T50.heap n0 (Nat.le_trans (Nat.le_trans (Nat.le_trans (Nat.le_trans Z0 E47.1) K48.1) E49.1) K50.1) ) hZ (hw _ (List.mem_of_getElem? (i := 22) rfl)) (hw _ (List.mem_of_getElem? (i := 2) rfl)) (by decide) (by decide)) q55a q55c (g := (mkF m 218 #[.val (.int p1), .val (.long p2), .second, .val (.int p3), .val (.long p4), .second, .val (.int p5), .val (.int (1 : Int32)), .val (.int (0 : Int32)), .val (.long (0 : Int64)), .second, .val (.int (p5 &&& (3 : Int32))), .val (.long z46), .second, .val (.long z46), .second, .val (.ref b47), .val (.ref b49), .val (.int (((p5.toUInt32 >>> ((8 : Int32) &&& 31).toUInt32).toInt32) &&& (3 : Int32))), .val .null] [.null, (.ref b47)])) rfl (by rw [hml]; rfl) (Steps.refl _) (argsL := [.null]) (rest := []) (lenOf pd0_1 rfl) rfl (by show 2 * 0 + _ ≤ _; exact Nat.le_of_eq rfl) (hb hby at_218) (fun _ _ => ⟨rfl, rfl, (by decide : 2 + 0 ≤ _), (by decide : 4 + 0 ≤ _)⟩)
          dsimp only [Pt.U, Pt.locs, Pt.cells, Pt.slots] at X55 l55 y55 z55 st55 hQ55
          subst l55 y55 z55
          obtain ⟨rfl, N55q, e55⟩ := hQ55
          have N55 := Fr.app N50 N55q
          refine goT st55 ?_
          show Go p.tables e below T55 (mkF m 221 #[.val (.int p1), .val (.long p2), .second, .val (.int p3), .val (.long p4), .second, .val (.int p5), .val (.int (1 : Int32)), .val (.int (0 : Int32)), .val (.long (0 : Int64)), .second, .val (.int (p5 &&& (3 : Int32))), .val (.long z46), .second, .val (.long z46), .second, .val (.ref b47), .val (.ref b49), .val (.int (((p5.toUInt32 >>> ((8 : Int32) &&& 31).toUInt32).toInt32) &&& (3 : Int32))), .val .null] [(.int (0 : Int32))]) _
          refine go1 (fun _ => XS.ifNo X55.here hx rfl (hb hby at_221) rfl ((if0 _ _).trans (teq (by decide : (0 : Int32) = (0 : Int32))).2)) ?_
          show Go p.tables e below T55 (mkF m 224 #[.val (.int p1), .val (.long p2), .second, .val (.int p3), .val (.long p4), .second, .val (.int p5), .val (.int (1 : Int32)), .val (.int (0 : Int32)), .val (.long (0 : Int64)), .second, .val (.int (p5 &&& (3 : Int32))), .val (.long z46), .second, .val (.long z46), .second, .val (.ref b47), .val (.ref b49), .val (.int (((p5.toUInt32 >>> ((8 : Int32) &&& 31).toUInt32).toInt32) &&& (3 : Int32))), .val .null] []) _
          refine go1 (fun _ => XS.iconst X55.here hx rfl (hb hby at_224)) ?_
          show Go p.tables e below T55 (mkF m 225 #[.val (.int p1), .val (.long p2), .second, .val (.int p3), .val (.long p4), .second, .val (.int p5), .val (.int (1 : Int32)), .val (.int (0 : Int32)), .val (.long (0 : Int64)), .second, .val (.int (p5 &&& (3 : Int32))), .val (.long z46), .second, .val (.long z46), .second, .val (.ref b47), .val (.ref b49), .val (.int (((p5.toUInt32 >>> ((8 : Int32) &&& 31).toUInt32).toInt32) &&& (3 : Int32))), .val .null] [(.int (1 : Int32))]) _
          refine go1 (fun _ => XS.goto X55.here hx rfl (pc0 := 225) (pc' := 229) rfl (hb hby at_225) (by decide) (by decide)) ?_
          show Go p.tables e below T55 (mkF m 229 #[.val (.int p1), .val (.long p2), .second, .val (.int p3), .val (.long p4), .second, .val (.int p5), .val (.int (1 : Int32)), .val (.int (0 : Int32)), .val (.long (0 : Int64)), .second, .val (.int (p5 &&& (3 : Int32))), .val (.long z46), .second, .val (.long z46), .second, .val (.ref b47), .val (.ref b49), .val (.int (((p5.toUInt32 >>> ((8 : Int32) &&& 31).toUInt32).toInt32) &&& (3 : Int32))), .val .null] [(.int (1 : Int32))]) _
          refine goR X55 (BodyLoose.notSynchronized Bd) (v := (some (.int (1 : Int32)))) (fun h => by rw [Bd.returns] at h; cases h) (Q0 Z p1 p2 p3 p4 p5 a_cache h0 n0) (fun fs hr => retN X55 hx (t := .boolean) Bd.returns (by simp) (hb hby at_229) hr) (by decide) (by decide) ?_
          show Q0 Z p1 p2 p3 p4 p5 a_cache h0 n0 _ T55.heap _
          rw [e55]
          exact ⟨rfl, N55⟩
        · skip
          refine go1 (fun _ => XS.icmpYes X50.here hx rfl (pc0 := 208) (pc' := 230) rfl (hb hby at_208) rfl (feq hc54).2 (by decide) (by decide)) ?_
          show Go p.tables e below T50 (mkF m 230 #[.val (.int p1), .val (.long p2), .second, .val (.int p3), .val (.long p4), .second, .val (.int p5), .val (.int (1 : Int32)), .val (.int (0 : Int32)), .val (.long (0 : Int64)), .second, .val (.int (p5 &&& (3 : Int32))), .val (.long z46), .second, .val (.long z46), .second, .val (.ref b47), .val (.ref b49), .val (.int (((p5.toUInt32 >>> ((8 : Int32) &&& 31).toUInt32).toInt32) &&& (3 : Int32))), .unset] []) _
          refine go1 (fun _ => XS.iload X50.here hx rfl (hb hby at_230) rfl) ?_
          show Go p.tables e below T50 (mkF m 232 #[.val (.int p1), .val (.long p2), .second, .val (.int p3), .val (.long p4), .second, .val (.int p5), .val (.int (1 : Int32)), .val (.int (0 : Int32)), .val (.long (0 : Int64)), .second, .val (.int (p5 &&& (3 : Int32))), .val (.long z46), .second, .val (.long z46), .second, .val (.ref b47), .val (.ref b49), .val (.int (((p5.toUInt32 >>> ((8 : Int32) &&& 31).toUInt32).toInt32) &&& (3 : Int32))), .unset] [(.int (((p5.toUInt32 >>> ((8 : Int32) &&& 31).toUInt32).toInt32) &&& (3 : Int32)))]) _
          refine go1 (fun _ => XS.iconst X50.here hx rfl (hb hby at_232)) ?_
          show Go p.tables e below T50 (mkF m 233 #[.val (.int p1), .val (.long p2), .second, .val (.int p3), .val (.long p4), .second, .val (.int p5), .val (.int (1 : Int32)), .val (.int (0 : Int32)), .val (.long (0 : Int64)), .second, .val (.int (p5 &&& (3 : Int32))), .val (.long z46), .second, .val (.long z46), .second, .val (.ref b47), .val (.ref b49), .val (.int (((p5.toUInt32 >>> ((8 : Int32) &&& 31).toUInt32).toInt32) &&& (3 : Int32))), .unset] [(.int (2 : Int32)), (.int (((p5.toUInt32 >>> ((8 : Int32) &&& 31).toUInt32).toInt32) &&& (3 : Int32)))]) _
          by_cases hc56 : (((p5.toUInt32 >>> ((8 : Int32) &&& 31).toUInt32).toInt32) &&& (3 : Int32)) = (2 : Int32)
          · skip
            refine go1 (fun _ => XS.icmpNo X50.here hx rfl (hb hby at_233) rfl (teq hc56).2) ?_
            show Go p.tables e below T50 (mkF m 236 #[.val (.int p1), .val (.long p2), .second, .val (.int p3), .val (.long p4), .second, .val (.int p5), .val (.int (1 : Int32)), .val (.int (0 : Int32)), .val (.long (0 : Int64)), .second, .val (.int (p5 &&& (3 : Int32))), .val (.long z46), .second, .val (.long z46), .second, .val (.ref b47), .val (.ref b49), .val (.int (((p5.toUInt32 >>> ((8 : Int32) &&& 31).toUInt32).toInt32) &&& (3 : Int32))), .unset] []) _
            refine go1 (fun _ => XS.lload X50.here hx rfl (hb hby at_236) rfl) ?_
            show Go p.tables e below T50 (mkF m 238 #[.val (.int p1), .val (.long p2), .second, .val (.int p3), .val (.long p4), .second, .val (.int p5), .val (.int (1 : Int32)), .val (.int (0 : Int32)), .val (.long (0 : Int64)), .second, .val (.int (p5 &&& (3 : Int32))), .val (.long z46), .second, .val (.long z46), .second, .val (.ref b47), .val (.ref b49), .val (.int (((p5.toUInt32 >>> ((8 : Int32) &&& 31).toUInt32).toInt32) &&& (3 : Int32))), .unset] [(.long (0 : Int64))]) _
            obtain ⟨_, _, ⟨T57, L57, k57, n57⟩, -, X57, ⟨Lc57, hQ57, l57, y57, z57⟩, st57⟩ := Jvm.LawKit.callS X50 hx (y := (⟨"java/lang/Long", "valueOf", "(J)Ljava/lang/Long;"⟩ : MethodName)) hown (mvT hZ (hw _ (List.mem_of_getElem? (i := 26) rfl))) (mvT hZ (hw _ (List.mem_of_getElem? (i := 27) rfl))) (mvT hZ (hw _ (List.mem_of_getElem? (i := 28) rfl))) (mvT hZ (hw _ (List.mem_of_getElem? (i := 29) rfl))) (by decide) (backOf (W := 0) (rm5 l Z a0 hw [] (0 : Int64) a_cache T50.heap n0 (Nat.le_trans (Nat.le_trans (Nat.le_trans (Nat.le_trans Z0 E47.1) K48.1) E49.1) K50.1) ((((O0.ext E47).keep K48 (allS g_b47 all0)).ext E49).keep K50 (allS g_b49 all0)) S_cache BX_a_cache) hZ (hw _ (List.mem_of_getElem? (i := 29) rfl)) (hw _ (List.mem_of_getElem? (i := 28) rfl)) (by decide) (by decide)) (g := (mkF m 238 #[.val (.int p1), .val (.long p2), .second, .val (.int p3), .val (.long p4), .second, .val (.int p5), .val (.int (1 : Int32)), .val (.int (0 : Int32)), .val (.long (0 : Int64)), .second, .val (.int (p5 &&& (3 : Int32))), .val (.long z46), .second, .val (.long z46), .second, .val (.ref b47), .val (.ref b49), .val (.int (((p5.toUInt32 >>> ((8 : Int32) &&& 31).toUInt32).toInt32) &&& (3 : Int32))), .unset] [(.long (0 : Int64))])) rfl (by rw [hml]; rfl) (argsL := [(.long (0 : Int64))]) (rest := []) (lenOf pd0_2 rfl) rfl (by show 2 * 0 + _ ≤ _; exact Nat.le_of_eq rfl) (hb hby at_238) (fun _ _ => ⟨rfl, rfl, (by decide : 2 + 1 ≤ _), (by decide : 4 + 1 ≤ _)⟩)
            dsimp only [Pt.U, Pt.locs, Pt.cells, Pt.slots] at X57 l57 y57 z57 st57 hQ57
            subst l57 y57 z57
            obtain ⟨b58, rfl, N57q, K57, G57_0, G57_1⟩ := hQ57
            have N57 := Fr.app N50 N57q
            refine go1 st57 ?_
            show Go p.tables e below T57 (mkF m 241 #[.val (.int p1), .val (.long p2), .second, .val (.int p3), .val (.long p4), .second, .val (.int p5), .val (.int (1 : Int32)), .val (.int (0 : Int32)), .val (.long (0 : Int64)), .second, .val (.int (p5 &&& (3 : Int32))), .val (.long z46), .second, .val (.long z46), .second, .val (.ref b47), .val (.ref b49), .val (.int (((p5.toUInt32 >>> ((8 : Int32) &&& 31).toUInt32).toInt32) &&& (3 : Int32))), .unset] [(.ref b58)]) _
            refine go1 (fun _ => XS.astore X57.here hx rfl (hb hby at_241) rfl rfl (l' := #[.val (.int p1), .val (.long p2), .second, .val (.int p3), .val (.long p4), .second, .val (.int p5), .val (.int (1 : Int32)), .val (.int (0 : Int32)), .val (.long (0 : Int64)), .second, .val (.int (p5 &&& (3 : Int32))), .val (.long z46), .second, .val (.long z46), .second, .val (.ref b47), .val (.ref b49), .val (.int (((p5.toUInt32 >>> ((8 : Int32) &&& 31).toUInt32).toInt32) &&& (3 : Int32))), .val (.ref b58)]) rfl) ?_
            show Go p.tables e below T57 (mkF m 243 #[.val (.int p1), .val (.long p2), .second, .val (.int p3), .val (.long p4), .second, .val (.int p5), .val (.int (1 : Int32)), .val (.int (0 : Int32)), .val (.long (0 : Int64)), .second, .val (.int (p5 &&& (3 : Int32))), .val (.long z46), .second, .val (.long z46), .second, .val (.ref b47), .val (.ref b49), .val (.int (((p5.toUInt32 >>> ((8 : Int32) &&& 31).toUInt32).toInt32) &&& (3 : Int32))), .val (.ref b58)] []) _
            refine go1 (fun _ => XS.aload X57.here hx rfl (hb hby at_243) rfl rfl) ?_
            show Go p.tables e below T57 (mkF m 245 #[.val (.int p1), .val (.long p2), .second, .val (.int p3), .val (.long p4), .second, .val (.int p5), .val (.int (1 : Int32)), .val (.int (0 : Int32)), .val (.long (0 : Int64)), .second, .val (.int (p5 &&& (3 : Int32))), .val (.long z46), .second, .val (.long z46), .second, .val (.ref b47), .val (.ref b49), .val (.int (((p5.toUInt32 >>> ((8 : Int32) &&& 31).toUInt32).toInt32) &&& (3 : Int32))), .val (.ref b58)] [(.ref b47)]) _
            refine go1 (fun _ => XS.aload X57.here hx rfl (hb hby at_245) rfl rfl) ?_
            show Go p.tables e below T57 (mkF m 247 #[.val (.int p1), .val (.long p2), .second, .val (.int p3), .val (.long p4), .second, .val (.int p5), .val (.int (1 : Int32)), .val (.int (0 : Int32)), .val (.long (0 : Int64)), .second, .val (.int (p5 &&& (3 : Int32))), .val (.long z46), .second, .val (.long z46), .second, .val (.ref b47), .val (.ref b49), .val (.int (((p5.toUInt32 >>> ((8 : Int32) &&& 31).toUInt32).toInt32) &&& (3 : Int32))), .val (.ref b58)] [(.ref b58), (.ref b47)]) _
            obtain ⟨cq59, kq59, q59a, q59b, q59c⟩ := isOf hZ rfl (((G48_0.ext E49).keep K50).keep K57)
            obtain ⟨_, _, ⟨T59, L59, k59, n59⟩, -, X59, ⟨Lc59, hQ59, l59, y59, z59⟩, st59⟩ := X57.virtualBack hx (y := (⟨"com/example/stubwright/stubwright/idl/UnionType$Label", "equals", "(Ljava/lang/Object;)Z"⟩ : MethodName)) (z := (⟨"com/example/stubwright/stubwright/idl/UnionType$Label", "equals", "(Ljava/lang/Object;)Z"⟩ : MethodName)) hown (mvT hZ (hw _ (List.mem_of_getElem? (i := 18) rfl))) (mvT hZ (hw _ (List.mem_of_getElem? (i := 19) rfl))) (notFace_of_selects (args := #[]) (mvT hZ (hw _ (List.mem_of_getElem? (i := 21) rfl)))) (mvT hZ (hw _ (List.mem_of_getElem? (i := 21) rfl))) (mvT hZ (hw _ (List.mem_of_getElem? (i := 20) rfl))) (by decide) (backOf (W := 0) (rm4c l Z a0 hw [] b47 b58 T57.heap n0 (Nat.le_trans (Nat.le_trans (Nat.le_trans (Nat.le_trans (Nat.le_trans Z0 E47.1) K48.1) E49.1) K50.1) K57.1) G57_0) hZ (hw _ (List.mem_of_getElem? (i := 22) rfl)) (hw _ (List.mem_of_getElem? (i := 2) rfl)) (by decide) (by decide)) q59a q59c (g := (mkF m 247 #[.val (.int p1), .val (.long p2), .second, .val (.int p3), .val (.long p4), .second, .val (.int p5), .val (.int (1 : Int32)), .val (.int (0 : Int32)), .val (.long (0 : Int64)), .second, .val (.int (p5 &&& (3 : Int32))), .val (.long z46), .second, .val (.long z46), .second, .val (.ref b47), .val (.ref b49), .val (.int (((p5.toUInt32 >>> ((8 : Int32) &&& 31).toUInt32).toInt32) &&& (3 : Int32))), .val (.ref b58)] [(.ref b58), (.ref b47)])) rfl (by rw [hml]; rfl) (Steps.refl _) (argsL := [(.ref b58)]) (rest := []) (lenOf pd0_1 rfl) rfl (by show 2 * 0 + _ ≤ _; exact Nat.le_of_eq rfl) (hb hby at_247) (fun _ _ => ⟨rfl, rfl, (by decide : 3 + 0 ≤ _), (by decide : 5 + 0 ≤ _)⟩)
            dsimp only [Pt.U, Pt.locs, Pt.cells, Pt.slots] at X59 l59 y59 z59 st59 hQ59
            subst l59 y59 z59
            obtain ⟨rfl, N59q, e59⟩ := hQ59
            have N59 := Fr.app N57 N59q
            refine goT st59 ?_
            show Go p.tables e below T59 (mkF m 250 #[.val (.int p1), .val (.long p2), .second, .val (.int p3), .val (.long p4), .second, .val (.int p5), .val (.int (1 : Int32)), .val (.int (0 : Int32)), .val (.long (0 : Int64)), .second, .val (.int (p5 &&& (3 : Int32))), .val (.long z46), .second, .val (.long z46), .second, .val (.ref b47), .val (.ref b49), .val (.int (((p5.toUInt32 >>> ((8 : Int32) &&& 31).toUInt32).toInt32) &&& (3 : Int32))), .val (.ref b58)] [(.int (0 : Int32))]) _
            refine go1 (fun _ => XS.ifNo X59.here hx rfl (hb hby at_250) rfl ((if0 _ _).trans (teq (by decide : (0 : Int32) = (0 : Int32))).2)) ?_
            show Go p.tables e below T59 (mkF m 253 #[.val (.int p1), .val (.long p2), .second, .val (.int p3), .val (.long p4), .second, .val (.int p5), .val (.int (1 : Int32)), .val (.int (0 : Int32)), .val (.long (0 : Int64)), .second, .val (.int (p5 &&& (3 : Int32))), .val (.long z46), .second, .val (.long z46), .second, .val (.ref b47), .val (.ref b49), .val (.int (((p5.toUInt32 >>> ((8 : Int32) &&& 31).toUInt32).toInt32) &&& (3 : Int32))), .val (.ref b58)] []) _
            refine go1 (fun _ => XS.iconst X59.here hx rfl (hb hby at_253)) ?_
            show Go p.tables e below T59 (mkF m 254 #[.val (.int p1), .val (.long p2), .second, .val (.int p3), .val (.long p4), .second, .val (.int p5), .val (.int (1 : Int32)), .val (.int (0 : Int32)), .val (.long (0 : Int64)), .second, .val (.int (p5 &&& (3 : Int32))), .val (.long z46), .second, .val (.long z46), .second, .val (.ref b47), .val (.ref b49), .val (.int (((p5.toUInt32 >>> ((8 : Int32) &&& 31).toUInt32).toInt32) &&& (3 : Int32))), .val (.ref b58)] [(.int (1 : Int32))]) _
            refine go1 (fun _ => XS.goto X59.here hx rfl (pc0 := 254) (pc' := 258) rfl (hb hby at_254) (by decide) (by decide)) ?_
            show Go p.tables e below T59 (mkF m 258 #[.val (.int p1), .val (.long p2), .second, .val (.int p3), .val (.long p4), .second, .val (.int p5), .val (.int (1 : Int32)), .val (.int (0 : Int32)), .val (.long (0 : Int64)), .second, .val (.int (p5 &&& (3 : Int32))), .val (.long z46), .second, .val (.long z46), .second, .val (.ref b47), .val (.ref b49), .val (.int (((p5.toUInt32 >>> ((8 : Int32) &&& 31).toUInt32).toInt32) &&& (3 : Int32))), .val (.ref b58)] [(.int (1 : Int32))]) _
            refine goR X59 (BodyLoose.notSynchronized Bd) (v := (some (.int (1 : Int32)))) (fun h => by rw [Bd.returns] at h; cases h) (Q0 Z p1 p2 p3 p4 p5 a_cache h0 n0) (fun fs hr => retN X59 hx (t := .boolean) Bd.returns (by simp) (hb hby at_258) hr) (by decide) (by decide) ?_
            show Q0 Z p1 p2 p3 p4 p5 a_cache h0 n0 _ T59.heap _
            rw [e59]
            exact ⟨rfl, N59⟩
          · skip
            refine go1 (fun _ => XS.icmpYes X50.here hx rfl (pc0 := 233) (pc' := 259) rfl (hb hby at_233) rfl (feq hc56).2 (by decide) (by decide)) ?_
            show Go p.tables e below T50 (mkF m 259 #[.val (.int p1), .val (.long p2), .second, .val (.int p3), .val (.long p4), .second, .val (.int p5), .val (.int (1 : Int32)), .val (.int (0 : Int32)), .val (.long (0 : Int64)), .second, .val (.int (p5 &&& (3 : Int32))), .val (.long z46), .second, .val (.long z46), .second, .val (.ref b47), .val (.ref b49), .val (.int (((p5.toUInt32 >>> ((8 : Int32) &&& 31).toUInt32).toInt32) &&& (3 : Int32))), .unset] []) _
            refine go1 (fun _ => XS.aload X50.here hx rfl (hb hby at_259) rfl rfl) ?_
            show Go p.tables e below T50 (mkF m 261 #[.val (.int p1), .val (.long p2), .second, .val (.int p3), .val (.long p4), .second, .val (.int p5), .val (.int (1 : Int32)), .val (.int (0 : Int32)), .val (.long (0 : Int64)), .second, .val (.int (p5 &&& (3 : Int32))), .val (.long z46), .second, .val (.long z46), .second, .val (.ref b47), .val (.ref b49), .val (.int (((p5.toUInt32 >>> ((8 : Int32) &&& 31).toUInt32).toInt32) &&& (3 : Int32))), .unset] [(.ref b47)]) _
            refine go1 (fun _ => XS.astore X50.here hx rfl (hb hby at_261) rfl rfl (l' := #[.val (.int p1), .val (.long p2), .second, .val (.int p3), .val (.long p4), .second, .val (.int p5), .val (.int (1 : Int32)), .val (.int (0 : Int32)), .val (.long (0 : Int64)), .second, .val (.int (p5 &&& (3 : Int32))), .val (.long z46), .second, .val (.long z46), .second, .val (.ref b47), .val (.ref b49), .val (.int (((p5.toUInt32 >>> ((8 : Int32) &&& 31).toUInt32).toInt32) &&& (3 : Int32))), .val (.ref b47)]) rfl) ?_
            show Go p.tables e below T50 (mkF m 263 #[.val (.int p1), .val (.long p2), .second, .val (.int p3), .val (.long p4), .second, .val (.int p5), .val (.int (1 : Int32)), .val (.int (0 : Int32)), .val (.long (0 : Int64)), .second, .val (.int (p5 &&& (3 : Int32))), .val (.long z46), .second, .val (.long z46), .second, .val (.ref b47), .val (.ref b49), .val (.int (((p5.toUInt32 >>> ((8 : Int32) &&& 31).toUInt32).toInt32) &&& (3 : Int32))), .val (.ref b47)] []) _
            refine go1 (fun _ => XS.aload X50.here hx rfl (hb hby at_263) rfl rfl) ?_
            show Go p.tables e below T50 (mkF m 265 #[.val (.int p1), .val (.long p2), .second, .val (.int p3), .val (.long p4), .second, .val (.int p5), .val (.int (1 : Int32)), .val (.int (0 : Int32)), .val (.long (0 : Int64)), .second, .val (.int (p5 &&& (3 : Int32))), .val (.long z46), .second, .val (.long z46), .second, .val (.ref b47), .val (.ref b49), .val (.int (((p5.toUInt32 >>> ((8 : Int32) &&& 31).toUInt32).toInt32) &&& (3 : Int32))), .val (.ref b47)] [(.ref b47)]) _
            refine go1 (fun _ => XS.aload X50.here hx rfl (hb hby at_265) rfl rfl) ?_
            show Go p.tables e below T50 (mkF m 267 #[.val (.int p1), .val (.long p2), .second, .val (.int p3), .val (.long p4), .second, .val (.int p5), .val (.int (1 : Int32)), .val (.int (0 : Int32)), .val (.long (0 : Int64)), .second, .val (.int (p5 &&& (3 : Int32))), .val (.long z46), .second, .val (.long z46), .second, .val (.ref b47), .val (.ref b49), .val (.int (((p5.toUInt32 >>> ((8 : Int32) &&& 31).toUInt32).toInt32) &&& (3 : Int32))), .val (.ref b47)] [(.ref b47), (.ref b47)]) _
            obtain ⟨cq60, kq60, q60a, q60b, q60c⟩ := isOf hZ rfl ((G48_0.ext E49).keep K50)
            obtain ⟨_, _, ⟨T60, L60, k60, n60⟩, -, X60, ⟨Lc60, hQ60, l60, y60, z60⟩, st60⟩ := X50.virtualBack hx (y := (⟨"com/example/stubwright/stubwright/idl/UnionType$Label", "equals", "(Ljava/lang/Object;)Z"⟩ : MethodName)) (z := (⟨"com/example/stubwright/stubwright/idl/UnionType$Label", "equals", "(Ljava/lang/Object;)Z"⟩ : MethodName)) hown (mvT hZ (hw _ (List.mem_of_getElem? (i := 18) rfl))) (mvT hZ (hw _ (List.mem_of_getElem? (i := 19) rfl))) (notFace_of_selects (args := #[]) (mvT hZ (hw _ (List.mem_of_getElem? (i := 21) rfl)))) (mvT hZ (hw _ (List.mem_of_getElem? (i := 21) rfl))) (mvT hZ (hw _ (List.mem_of_getElem? (i := 20) rfl))) (by decide) (backOf (W := 0) (rm4a l Z a0 hw [] b47 b47 (1 : Int32) (0 : Int64) (1 : Int32) (0 : Int64) T50.heap n0 (Nat.le_trans (Nat.le_trans (Nat.le_trans (Nat.le_trans Z0 E47.1) K48.1) E49.1) K50.1) ((G48_0.ext E49).keep K50) ((G48_1.ext E49).keep K50 (ninS (Nat.ne_of_lt (Nat.lt_of_lt_of_le G48_2.lt (Nat.le_of_eq g49.symm))) nin0)) ((G48_2.ext E49).keep K50 (ninS (Nat.ne_of_lt (Nat.lt_of_lt_of_le G48_2.lt (Nat.le_of_eq g49.symm))) nin0)) ((G48_1.ext E49).keep K50 (ninS (Nat.ne_of_lt (Nat.lt_of_lt_of_le G48_2.lt (Nat.le_of_eq g49.symm))) nin0)) ((G48_2.ext E49).keep K50 (ninS (Nat.ne_of_lt (Nat.lt_of_lt_of_le G48_2.lt (Nat.le_of_eq g49.symm))) nin0))) hZ (hw _ (List.mem_of_getElem? (i := 22) rfl)) (hw _ (List.mem_of_getElem? (i := 2) rfl)) (by decide) (by decide)) q60a q60c (g := (mkF m 267 #[.val (.int p1), .val (.long p2), .second, .val (.int p3), .val (.long p4), .second, .val (.int p5), .val (.int (1 : Int32)), .val (.int (0 : Int32)), .val (.long (0 : Int64)), .second, .val (.int (p5 &&& (3 : Int32))), .val (.long z46), .second, .val (.long z46), .second, .val (.ref b47), .val (.ref b49), .val (.int (((p5.toUInt32 >>> ((8 : Int32) &&& 31).toUInt32).toInt32) &&& (3 : Int32))), .val (.ref b47)] [(.ref b47), (.ref b47)])) rfl (by rw [hml]; rfl) (Steps.refl _) (argsL := [(.ref b47)]) (rest := []) (lenOf pd0_1 rfl) rfl (by show 2 * 0 + _ ≤ _; exact Nat.le_of_eq rfl) (hb hby at_267) (fun _ _ => ⟨rfl, rfl, (by decide : 2 + 0 ≤ _), (by decide : 4 + 0 ≤ _)⟩)
            dsimp only [Pt.U, Pt.locs, Pt.cells, Pt.slots] at X60 l60 y60 z60 st60 hQ60
            subst l60 y60 z60
            obtain ⟨rfl, N60q, e60⟩ := hQ60
            have N60 := Fr.app N50 N60q
            refine goT st60 ?_
            show Go p.tables e below T60 (mkF m 270 #[.val (.int p1), .val (.long p2), .second, .val (.int p3), .val (.long p4), .second, .val (.int p5), .val (.int (1 : Int32)), .val (.int (0 : Int32)), .val (.long (0 : Int64)), .second, .val (.int (p5 &&& (3 : Int32))), .val (.long z46), .second, .val (.long z46), .second, .val (.ref b47), .val (.ref b49), .val (.int (((p5.toUInt32 >>> ((8 : Int32) &&& 31).toUInt32).toInt32) &&& (3 : Int32))), .val (.ref b47)] [(.int (own_4a (1 : Int32) (0 : Int64) (1 : Int32) (0 : Int64)))]) _
            refine goR X60 (BodyLoose.notSynchronized Bd) (v := (some (.int (nar .boolean (own_4a (1 : Int32) (0 : Int64) (1 : Int32) (0 : Int64)))))) (fun h => by rw [Bd.returns] at h; cases h) (Q0 Z p1 p2 p3 p4 p5 a_cache h0 n0) (fun fs hr => retN X60 hx (t := .boolean) Bd.returns (by simp) (hb hby at_270) hr) (by decide) (by decide) ?_
            show Q0 Z p1 p2 p3 p4 p5 a_cache h0 n0 _ T60.heap _
            rw [e60]
            exact ⟨(by simp [own_4a, nar]), N60⟩
    · skip
      refine go1 (fun _ => XS.ifNo X0.here hx rfl (hb hby at_16) rfl ((if0 _ _).trans (feq hc42).1)) ?_
      show Go p.tables e below s₁ (mkF m 19 #[.val (.int p1), .val (.long p2), .second, .val (.int p3), .val (.long p4), .second, .val (.int p5), .val (.int (1 : Int32)), .unset, .unset, .unset, .unset, .unset, .unset, .unset, .unset, .unset, .unset, .unset, .unset] []) _
      refine go1 (fun _ => XS.iconst X0.here hx rfl (hb hby at_19)) ?_
      show Go p.tables e below s₁ (mkF m 20 #[.val (.int p1), .val (.long p2), .second, .val (.int p3), .val (.long p4), .second, .val (.int p5), .val (.int (1 : Int32)), .unset, .unset, .unset, .unset, .unset, .unset, .unset, .unset, .unset, .unset, .unset, .unset] [(.int (1 : Int32))]) _
      refine go1 (fun _ => XS.goto X0.here hx rfl (pc0 := 20) (pc' := 24) rfl (hb hby at_20) (by decide) (by decide)) ?_
      show Go p.tables e below s₁ (mkF m 24 #[.val (.int p1), .val (.long p2), .second, .val (.int p3), .val (.long p4), .second, .val (.int p5), .val (.int (1 : Int32)), .unset, .unset, .unset, .unset, .unset, .unset, .unset, .unset, .unset, .unset, .unset, .unset] [(.int (1 : Int32))]) _
      refine go1 (fun _ => XS.istore X0.here hx rfl (hb hby at_24) rfl (l' := #[.val (.int p1), .val (.long p2), .second, .val (.int p3), .val (.long p4), .second, .val (.int p5), .val (.int (1 : Int32)), .val (.int (1 : Int32)), .unset, .unset, .unset, .unset, .unset, .unset, .unset, .unset, .unset, .unset, .unset]) rfl) ?_
      show Go p.tables e below s₁ (mkF m 26 #[.val (.int p1), .val (.long p2), .second, .val (.int p3), .val (.long p4), .second, .val (.int p5), .val (.int (1 : Int32)), .val (.int (1 : Int32)), .unset, .unset, .unset, .unset, .unset, .unset, .unset, .unset, .unset, .unset, .unset] []) _
      refine go1 (fun _ => XS.iload X0.here hx rfl (hb hby at_26) rfl) ?_
      show Go p.tables e below s₁ (mkF m 28 #[.val (.int p1), .val (.long p2), .second, .val (.int p3), .val (.long p4), .second, .val (.int p5), .val (.int (1 : Int32)), .val (.int (1 : Int32)), .unset, .unset, .unset, .unset, .unset, .unset, .unset, .unset, .unset, .unset, .unset] [(.int (1 : Int32))]) _
      refine go1 (fun _ => XS.ifNo X0.here hx rfl (hb hby at_28) rfl ((if0 _ _).trans (feq (by decide : ¬ ((1 : Int32) = (0 : Int32)))).1)) ?_
      show Go p.tables e below s₁ (mkF m 31 #[.val (.int p1), .val (.long p2), .second, .val (.int p3), .val (.long p4), .second, .val (.int p5), .val (.int (1 : Int32)), .val (.int (1 : Int32)), .unset, .unset, .unset, .unset, .unset, .unset, .unset, .unset, .unset, .unset, .unset] []) _
      refine go1 (fun _ => XS.lconst X0.here hx rfl (hb hby at_31)) ?_
      show Go p.tables e below s₁ (mkF m 32 #[.val (.int p1), .val (.long p2), .second, .val (.int p3), .val (.long p4), .second, .val (.int p5), .val (.int (1 : Int32)), .val (.int (1 : Int32)), .unset, .unset, .unset, .unset, .unset, .unset, .unset, .unset, .unset, .unset, .unset] [(.long (0 : Int64))]) _
      refine go1 (fun _ => XS.goto X0.here hx rfl (pc0 := 32) (pc' := 36) rfl (hb hby at_32) (by decide) (by decide)) ?_
      show Go p.tables e below s₁ (mkF m 36 #[.val (.int p1), .val (.long p2), .second, .val (.int p3), .val (.long p4), .second, .val (.int p5), .val (.int (1 : Int32)), .val (.int (1 : Int32)), .unset, .unset, .unset, .unset, .unset, .unset, .unset, .unset, .unset, .unset, .unset] [(.long (0 : Int64))]) _
      refine go1 (fun _ => XS.lstore X0.here hx rfl (hb hby at_36) rfl (l' := #[.val (.int p1), .val (.long p2), .second, .val (.int p3), .val (.long p4), .second, .val (.int p5), .val (.int (1 : Int32)), .val (.int (1 : Int32)), .val (.long (0 : Int64)), .second, .unset, .unset, .unset, .unset, .unset, .unset, .unset, .unset, .unset]) rfl) ?_
      show Go p.tables e below s₁ (mkF m 38 #[.val (.int p1), .val (.long p2), .second, .val (.int p3), .val (.long p4), .second, .val (.int p5), .val (.int (1 : Int32)), .val (.int (1 : Int32)), .val (.long (0 : Int64)), .second, .unset, .unset, .unset, .unset, .unset, .unset, .unset, .unset, .unset] []) _
      refine go1 (fun _ => XS.iload X0.here hx rfl (hb hby at_38) rfl) ?_
      show Go p.tables e below s₁ (mkF m 40 #[.val (.int p1), .val (.long p2), .second, .val (.int p3), .val (.long p4), .second, .val (.int p5), .val (.int (1 : Int32)), .val (.int (1 : Int32)), .val (.long (0 : Int64)), .second, .unset, .unset, .unset, .unset, .unset, .unset, .unset, .unset, .unset] [(.int p5)]) _
      refine go1 (fun _ => XS.iconst X0.here hx rfl (hb hby at_40)) ?_
      show Go p.tables e below s₁ (mkF m 41 #[.val (.int p1), .val (.long p2), .second, .val (.int p3), .val (.long p4), .second, .val (.int p5), .val (.int (1 : Int32)), .val (.int (1 : Int32)), .val (.long (0 : Int64)), .second, .unset, .unset, .unset, .unset, .unset, .unset, .unset, .unset, .unset] [(.int (3 : Int32)), (.int p5)]) _
      refine go1 (fun _ => XS.iand X0.here hx rfl (hb hby at_41) rfl) ?_
      show Go p.tables e below s₁ (mkF m 42 #[.val (.int p1), .val (.long p2), .second, .val (.int p3), .val (.long p4), .second, .val (.int p5), .val (.int (1 : Int32)), .val (.int (1 : Int32)), .val (.long (0 : Int64)), .second, .unset, .unset, .unset, .unset, .unset, .unset, .unset, .unset, .unset] [(.int (p5 &&& (3 : Int32)))]) _
      refine go1 (fun _ => XS.istore X0.here hx rfl (hb hby at_42) rfl (l' := #[.val (.int p1), .val (.long p2), .second, .val (.int p3), .val (.long p4), .second, .val (.int p5), .val (.int (1 : Int32)), .val (.int (1 : Int32)), .val (.long (0 : Int64)), .second, .val (.int (p5 &&& (3 : Int32))), .unset, .unset, .unset, .unset, .unset, .unset, .unset, .unset]) rfl) ?_
      show Go p.tables e below s₁ (mkF m 44 #[.val (.int p1), .val (.long p2), .second, .val (.int p3), .val (.long p4), .second, .val (.int p5), .val (.int (1 : Int32)), .val (.int (1 : Int32)), .val (.long (0 : Int64)), .second, .val (.int (p5 &&& (3 : Int32))), .unset, .unset, .unset, .unset, .unset, .unset, .unset, .unset] []) _
      refine go1 (fun _ => XS.iload X0.here hx rfl (hb hby at_44) rfl) ?_
      show Go p.tables e below s₁ (mkF m 46 #[.val (.int p1), .val (.long p2), .second, .val (.int p3), .val (.long p4), .second, .val (.int p5), .val (.int (1 : Int32)), .val (.int (1 : Int32)), .val (.long (0 : Int64)), .second, .val (.int (p5 &&& (3 : Int32))), .unset, .unset, .unset, .unset, .unset, .unset, .unset, .unset] [(.int (p5 &&& (3 : Int32)))]) _
      refine go1 (T' := s₁) (g' := (mkF m 100 #[.val (.int p1), .val (.long p2), .second, .val (.int p3), .val (.long p4), .second, .val (.int p5), .val (.int (1 : Int32)), .val (.int (1 : Int32)), .val (.long (0 : Int64)), .second, .val (.int (p5 &&& (3 : Int32))), .val (.long (if (p5 &&& (3 : Int32)) = (0 : Int32) then p4 else (if (p5 &&& (3 : Int32)) = (1 : Int32) then (0 : Int64) else (if (p5 &&& (3 : Int32)) = (2 : Int32) then ((0 : Int64) ^^^ ((1 : Int64) <<< ((((p5.toUInt32 >>> ((2 : Int32) &&& 31).toUInt32).toInt32) &&& (63 : Int32)) &&& 0x3f).toInt64)) else (-1 : Int64))))), .second, .unset, .unset, .unset, .unset, .unset, .unset] [])) (fun t k => ?_) ?_
      · by_cases hd61 : (p5 &&& (3 : Int32)) = (0 : Int32)
        · skip
          rw [(if_pos hd61 : (if (p5 &&& (3 : Int32)) = (0 : Int32) then p4 else (if (p5 &&& (3 : Int32)) = (1 : Int32) then (0 : Int64) else (if (p5 &&& (3 : Int32)) = (2 : Int32) then ((0 : Int64) ^^^ ((1 : Int64) <<< ((((p5.toUInt32 >>> ((2 : Int32) &&& 31).toUInt32).toInt32) &&& (63 : Int32)) &&& 0x3f).toInt64)) else (-1 : Int64)))) = p4)] at k
          show Steps p.tables e below (s₁.setTop (mkF m 46 #[.val (.int p1), .val (.long p2), .second, .val (.int p3), .val (.long p4), .second, .val (.int p5), .val (.int (1 : Int32)), .val (.int (1 : Int32)), .val (.long (0 : Int64)), .second, .val (.int (p5 &&& (3 : Int32))), .unset, .unset, .unset, .unset, .unset, .unset, .unset, .unset] [(.int (p5 &&& (3 : Int32)))])) _
          refine XS.ifNo X0.here hx rfl (hb hby at_46) rfl ((if0 _ _).trans (teq hd61).2) ?_
          show Steps p.tables e below (s₁.setTop (mkF m 49 #[.val (.int p1), .val (.long p2), .second, .val (.int p3), .val (.long p4), .second, .val (.int p5), .val (.int (1 : Int32)), .val (.int (1 : Int32)), .val (.long (0 : Int64)), .second, .val (.int (p5 &&& (3 : Int32))), .unset, .unset, .unset, .unset, .unset, .unset, .unset, .unset] [])) _
          refine XS.lload X0.here hx rfl (hb hby at_49) rfl ?_
          show Steps p.tables e below (s₁.setTop (mkF m 51 #[.val (.int p1), .val (.long p2), .second, .val (.int p3), .val (.long p4), .second, .val (.int p5), .val (.int (1 : Int32)), .val (.int (1 : Int32)), .val (.long (0 : Int64)), .second, .val (.int (p5 &&& (3 : Int32))), .unset, .unset, .unset, .unset, .unset, .unset, .unset, .unset] [(.long p4)])) _
          refine XS.lstore X0.here hx rfl (hb hby at_51) rfl (l' := #[.val (.int p1), .val (.long p2), .second, .val (.int p3), .val (.long p4), .second, .val (.int p5), .val (.int (1 : Int32)), .val (.int (1 : Int32)), .val (.long (0 : Int64)), .second, .val (.int (p5 &&& (3 : Int32))), .val (.long p4), .second, .unset, .unset, .unset, .unset, .unset, .unset]) rfl ?_
          show Steps p.tables e below (s₁.setTop (mkF m 53 #[.val (.int p1), .val (.long p2), .second, .val (.int p3), .val (.long p4), .second, .val (.int p5), .val (.int (1 : Int32)), .val (.int (1 : Int32)), .val (.long (0 : Int64)), .second, .val (.int (p5 &&& (3 : Int32))), .val (.long p4), .second, .unset, .unset, .unset, .unset, .unset, .unset] [])) _
          refine XS.goto X0.here hx rfl (pc0 := 53) (pc' := 100) rfl (hb hby at_53) (by decide) (by decide) ?_
          show Steps p.tables e below (s₁.setTop (mkF m 100 #[.val (.int p1), .val (.long p2), .second, .val (.int p3), .val (.long p4), .second, .val (.int p5), .val (.int (1 : Int32)), .val (.int (1 : Int32)), .val (.long (0 : Int64)), .second, .val (.int (p5 &&& (3 : Int32))), .val (.long p4), .second, .unset, .unset, .unset, .unset, .unset, .unset] [])) _
          exact k
        · skip
          rw [(if_neg hd61 : (if (p5 &&& (3 : Int32)) = (0 : Int32) then p4 else (if (p5 &&& (3 : Int32)) = (1 : Int32) then (0 : Int64) else (if (p5 &&& (3 : Int32)) = (2 : Int32) then ((0 : Int64) ^^^ ((1 : Int64) <<< ((((p5.toUInt32 >>> ((2 : Int32) &&& 31).toUInt32).toInt32) &&& (63 : Int32)) &&& 0x3f).toInt64)) else (-1 : Int64)))) = (if (p5 &&& (3 : Int32)) = (1 : Int32) then (0 : Int64) else (if (p5 &&& (3 : Int32)) = (2 : Int32) then ((0 : Int64) ^^^ ((1 : Int64) <<< ((((p5.toUInt32 >>> ((2 : Int32) &&& 31).toUInt32).toInt32) &&& (63 : Int32)) &&& 0x3f).toInt64)) else (-1 : Int64))))] at k
          show Steps p.tables e below (s₁.setTop (mkF m 46 #[.val (.int p1), .val (.long p2), .second, .val (.int p3), .val (.long p4), .second, .val (.int p5), .val (.int (1 : Int32)), .val (.int (1 : Int32)), .val (.long (0 : Int64)), .second, .val (.int (p5 &&& (3 : Int32))), .unset, .unset, .unset, .unset, .unset, .unset, .unset, .unset] [(.int (p5 &&& (3 : Int32)))])) _
          refine XS.ifYes X0.here hx rfl (pc0 := 46) (pc' := 56) rfl (hb hby at_46) rfl ((if0 _ _).trans (feq hd61).2) (by decide) (by decide) ?_
          show Steps p.tables e below (s₁.setTop (mkF m 56 #[.val (.int p1), .val (.long p2), .second, .val (.int p3), .val (.long p4), .second, .val (.int p5), .val (.int (1 : Int32)), .val (.int (1 : Int32)), .val (.long (0 : Int64)), .second, .val (.int (p5 &&& (3 : Int32))), .unset, .unset, .unset, .unset, .unset, .unset, .unset, .unset] [])) _
          refine XS.iload X0.here hx rfl (hb hby at_56) rfl ?_
          show Steps p.tables e below (s₁.setTop (mkF m 58 #[.val (.int p1), .val (.long p2), .second, .val (.int p3), .val (.long p4), .second, .val (.int p5), .val (.int (1 : Int32)), .val (.int (1 : Int32)), .val (.long (0 : Int64)), .second, .val (.int (p5 &&& (3 : Int32))), .unset, .unset, .unset, .unset, .unset, .unset, .unset, .unset] [(.int (p5 &&& (3 : Int32)))])) _
          refine XS.iconst X0.here hx rfl (hb hby at_58) ?_
          show Steps p.tables e below (s₁.setTop (mkF m 59 #[.val (.int p1), .val (.long p2), .second, .val (.int p3), .val (.long p4), .second, .val (.int p5), .val (.int (1 : Int32)), .val (.int (1 : Int32)), .val (.long (0 : Int64)), .second, .val (.int (p5 &&& (3 : Int32))), .unset, .unset, .unset, .unset, .unset, .unset, .unset, .unset] [(.int (1 : Int32)), (.int (p5 &&& (3 : Int32)))])) _
          refine stp (T' := s₁) (g' := (mkF m 100 #[.val (.int p1), .val (.long p2), .second, .val (.int p3), .val (.long p4), .second, .val (.int p5), .val (.int (1 : Int32)), .val (.int (1 : Int32)), .val (.long (0 : Int64)), .second, .val (.int (p5 &&& (3 : Int32))), .val (.long (if (p5 &&& (3 : Int32)) = (1 : Int32) then (0 : Int64) else (if (p5 &&& (3 : Int32)) = (2 : Int32) then ((0 : Int64) ^^^ ((1 : Int64) <<< ((((p5.toUInt32 >>> ((2 : Int32) &&& 31).toUInt32).toInt32) &&& (63 : Int32)) &&& 0x3f).toInt64)) else (-1 : Int64)))), .second, .unset, .unset, .unset, .unset, .unset, .unset] [])) (fun t k => ?_) ?_
          · by_cases hd62 : (p5 &&& (3 : Int32)) = (1 : Int32)
            · skip
              rw [(if_pos hd62 : (if (p5 &&& (3 : Int32)) = (1 : Int32) then (0 : Int64) else (if (p5 &&& (3 : Int32)) = (2 : Int32) then ((0 : Int64) ^^^ ((1 : Int64) <<< ((((p5.toUInt32 >>> ((2 : Int32) &&& 31).toUInt32).toInt32) &&& (63 : Int32)) &&& 0x3f).toInt64)) else (-1 : Int64))) = (0 : Int64))] at k
              show Steps p.tables e below (s₁.setTop (mkF m 59 #[.val (.int p1), .val (.long p2), .second, .val (.int p3), .val (.long p4), .second, .val (.int p5), .val (.int (1 : Int32)), .val (.int (1 : Int32)), .val (.long (0 : Int64)), .second, .val (.int (p5 &&& (3 : Int32))), .unset, .unset, .unset, .unset, .unset, .unset, .unset, .unset] [(.int (1 : Int32)), (.int (p5 &&& (3 : Int32)))])) _
              refine XS.icmpNo X0.here hx rfl (hb hby at_59) rfl (teq hd62).2 ?_
              show Steps p.tables e below (s₁.setTop (mkF m 62 #[.val (.int p1), .val (.long p2), .second, .val (.int p3), .val (.long p4), .second, .val (.int p5), .val (.int (1 : Int32)), .val (.int (1 : Int32)), .val (.long (0 : Int64)), .second, .val (.int (p5 &&& (3 : Int32))), .unset, .unset, .unset, .unset, .unset, .unset, .unset, .unset] [])) _
              refine XS.lload X0.here hx rfl (hb hby at_62) rfl ?_
              show Steps p.tables e below (s₁.setTop (mkF m 64 #[.val (.int p1), .val (.long p2), .second, .val (.int p3), .val (.long p4), .second, .val (.int p5), .val (.int (1 : Int32)), .val (.int (1 : Int32)), .val (.long (0 : Int64)), .second, .val (.int (p5 &&& (3 : Int32))), .unset, .unset, .unset, .unset, .unset, .unset, .unset, .unset] [(.long (0 : Int64))])) _
              refine XS.lstore X0.here hx rfl (hb hby at_64) rfl (l' := #[.val (.int p1), .val (.long p2), .second, .val (.int p3), .val (.long p4), .second, .val (.int p5), .val (.int (1 : Int32)), .val (.int (1 : Int32)), .val (.long (0 : Int64)), .second, .val (.int (p5 &&& (3 : Int32))), .val (.long (0 : Int64)), .second, .unset, .unset, .unset, .unset, .unset, .unset]) rfl ?_
              show Steps p.tables e below (s₁.setTop (mkF m 66 #[.val (.int p1), .val (.long p2), .second, .val (.int p3), .val (.long p4), .second, .val (.int p5), .val (.int (1 : Int32)), .val (.int (1 : Int32)), .val (.long (0 : Int64)), .second, .val (.int (p5 &&& (3 : Int32))), .val (.long (0 : Int64)), .second, .unset, .unset, .unset, .unset, .unset, .unset] [])) _
              refine XS.goto X0.here hx rfl (pc0 := 66) (pc' := 100) rfl (hb hby at_66) (by decide) (by decide) ?_
              show Steps p.tables e below (s₁.setTop (mkF m 100 #[.val (.int p1), .val (.long p2), .second, .val (.int p3), .val (.long p4), .second, .val (.int p5), .val (.int (1 : Int32)), .val (.int (1 : Int32)), .val (.long (0 : Int64)), .second, .val (.int (p5 &&& (3 : Int32))), .val (.long (0 : Int64)), .second, .unset, .unset, .unset, .unset, .unset, .unset] [])) _
              exact k
            · skip
              rw [(if_neg hd62 : (if (p5 &&& (3 : Int32)) = (1 : Int32) then (0 : Int64) else (if (p5 &&& (3 : Int32)) = (2 : Int32) then ((0 : Int64) ^^^ ((1 : Int64) <<< ((((p5.toUInt32 >>> ((2 : Int32) &&& 31).toUInt32).toInt32) &&& (63 : Int32)) &&& 0x3f).toInt64)) else (-1 : Int64))) = (if (p5 &&& (3 : Int32)) = (2 : Int32) then ((0 : Int64) ^^^ ((1 : Int64) <<< ((((p5.toUInt32 >>> ((2 : Int32) &&& 31).toUInt32).toInt32) &&& (63 : Int32)) &&& 0x3f).toInt64)) else (-1 : Int64)))] at k
              show Steps p.tables e below (s₁.setTop (mkF m 59 #[.val (.int p1), .val (.long p2), .second, .val (.int p3), .val (.long p4), .second, .val (.int p5), .val (.int (1 : Int32)), .val (.int (1 : Int32)), .val (.long (0 : Int64)), .second, .val (.int (p5 &&& (3 : Int32))), .unset, .unset, .unset, .unset, .unset, .unset, .unset, .unset] [(.int (1 : Int32)), (.int (p5 &&& (3 : Int32)))])) _
              refine XS.icmpYes X0.here hx rfl (pc0 := 59) (pc' := 69) rfl (hb hby at_59) rfl (feq hd62).2 (by decide) (by decide) ?_
              show Steps p.tables e below (s₁.setTop (mkF m 69 #[.val (.int p1), .val (.long p2), .second, .val (.int p3), .val (.long p4), .second, .val (.int p5), .val (.int (1 : Int32)), .val (.int (1 : Int32)), .val (.long (0 : Int64)), .second, .val (.int (p5 &&& (3 : Int32))), .unset, .unset, .unset, .unset, .unset, .unset, .unset, .unset] [])) _
              refine XS.iload X0.here hx rfl (hb hby at_69) rfl ?_
              show Steps p.tables e below (s₁.setTop (mkF m 71 #[.val (.int p1), .val (.long p2), .second, .val (.int p3), .val (.long p4), .second, .val (.int p5), .val (.int (1 : Int32)), .val (.int (1 : Int32)), .val (.long (0 : Int64)), .second, .val (.int (p5 &&& (3 : Int32))), .unset, .unset, .unset, .unset, .unset, .unset, .unset, .unset] [(.int (p5 &&& (3 : Int32)))])) _
              refine XS.iconst X0.here hx rfl (hb hby at_71) ?_
              show Steps p.tables e below (s₁.setTop (mkF m 72 #[.val (.int p1), .val (.long p2), .second, .val (.int p3), .val (.long p4), .second, .val (.int p5), .val (.int (1 : Int32)), .val (.int (1 : Int32)), .val (.long (0 : Int64)), .second, .val (.int (p5 &&& (3 : Int32))), .unset, .unset, .unset, .unset, .unset, .unset, .unset, .unset] [(.int (2 : Int32)), (.int (p5 &&& (3 : Int32)))])) _
              refine stp (T' := s₁) (g' := (mkF m 100 #[.val (.int p1), .val (.long p2), .second, .val (.int p3), .val (.long p4), .second, .val (.int p5), .val (.int (1 : Int32)), .val (.int (1 : Int32)), .val (.long (0 : Int64)), .second, .val (.int (p5 &&& (3 : Int32))), .val (.long (if (p5 &&& (3 : Int32)) = (2 : Int32) then ((0 : Int64) ^^^ ((1 : Int64) <<< ((((p5.toUInt32 >>> ((2 : Int32) &&& 31).toUInt32).toInt32) &&& (63 : Int32)) &&& 0x3f).toInt64)) else (-1 : Int64))), .second, .unset, .unset, .unset, .unset, .unset, .unset] [])) (fun t k => ?_) ?_
              · by_cases hd63 : (p5 &&& (3 : Int32)) = (2 : Int32)
                · skip
                  rw [(if_pos hd63 : (if (p5 &&& (3 : Int32)) = (2 : Int32) then ((0 : Int64) ^^^ ((1 : Int64) <<< ((((p5.toUInt32 >>> ((2 : Int32) &&& 31).toUInt32).toInt32) &&& (63 : Int32)) &&& 0x3f).toInt64)) else (-1 : Int64)) = ((0 : Int64) ^^^ ((1 : Int64) <<< ((((p5.toUInt32 >>> ((2 : Int32) &&& 31).toUInt32).toInt32) &&& (63 : Int32)) &&& 0x3f).toInt64)))] at k
                  show Steps p.tables e below (s₁.setTop (mkF m 72 #[.val (.int p1), .val (.long p2), .second, .val (.int p3), .val (.long p4), .second, .val (.int p5), .val (.int (1 : Int32)), .val (.int (1 : Int32)), .val (.long (0 : Int64)), .second, .val (.int (p5 &&& (3 : Int32))), .unset, .unset, .unset, .unset, .unset, .unset, .unset, .unset] [(.int (2 : Int32)), (.int (p5 &&& (3 : Int32)))])) _
                  refine XS.icmpNo X0.here hx rfl (hb hby at_72) rfl (teq hd63).2 ?_
                  show Steps p.tables e below (s₁.setTop (mkF m 75 #[.val (.int p1), .val (.long p2), .second, .val (.int p3), .val (.long p4), .second, .val (.int p5), .val (.int (1 : Int32)), .val (.int (1 : Int32)), .val (.long (0 : Int64)), .second, .val (.int (p5 &&& (3 : Int32))), .unset, .unset, .unset, .unset, .unset, .unset, .unset, .unset] [])) _
                  refine XS.lload X0.here hx rfl (hb hby at_75) rfl ?_
                  show Steps p.tables e below (s₁.setTop (mkF m 77 #[.val (.int p1), .val (.long p2), .second, .val (.int p3), .val (.long p4), .second, .val (.int p5), .val (.int (1 : Int32)), .val (.int (1 : Int32)), .val (.long (0 : Int64)), .second, .val (.int (p5 &&& (3 : Int32))), .unset, .unset, .unset, .unset, .unset, .unset, .unset, .unset] [(.long (0 : Int64))])) _
                  refine XS.lconst X0.here hx rfl (hb hby at_77) ?_
                  show Steps p.tables e below (s₁.setTop (mkF m 78 #[.val (.int p1), .val (.long p2), .second, .val (.int p3), .val (.long p4), .second, .val (.int p5), .val (.int (1 : Int32)), .val (.int (1 : Int32)), .val (.long (0 : Int64)), .second, .val (.int (p5 &&& (3 : Int32))), .unset, .unset, .unset, .unset, .unset, .unset, .unset, .unset] [(.long (1 : Int64)), (.long (0 : Int64))])) _
                  refine XS.iload X0.here hx rfl (hb hby at_78) rfl ?_
                  show Steps p.tables e below (s₁.setTop (mkF m 80 #[.val (.int p1), .val (.long p2), .second, .val (.int p3), .val (.long p4), .second, .val (.int p5), .val (.int (1 : Int32)), .val (.int (1 : Int32)), .val (.long (0 : Int64)), .second, .val (.int (p5 &&& (3 : Int32))), .unset, .unset, .unset, .unset, .unset, .unset, .unset, .unset] [(.int p5), (.long (1 : Int64)), (.long (0 : Int64))])) _
                  refine XS.iconst X0.here hx rfl (hb hby at_80) ?_
                  show Steps p.tables e below (s₁.setTop (mkF m 81 #[.val (.int p1), .val (.long p2), .second, .val (.int p3), .val (.long p4), .second, .val (.int p5), .val (.int (1 : Int32)), .val (.int (1 : Int32)), .val (.long (0 : Int64)), .second, .val (.int (p5 &&& (3 : Int32))), .unset, .unset, .unset, .unset, .unset, .unset, .unset, .unset] [(.int (2 : Int32)), (.int p5), (.long (1 : Int64)), (.long (0 : Int64))])) _
                  refine XS.iushr X0.here hx rfl (hb hby at_81) rfl ?_
                  show Steps p.tables e below (s₁.setTop (mkF m 82 #[.val (.int p1), .val (.long p2), .second, .val (.int p3), .val (.long p4), .second, .val (.int p5), .val (.int (1 : Int32)), .val (.int (1 : Int32)), .val (.long (0 : Int64)), .second, .val (.int (p5 &&& (3 : Int32))), .unset, .unset, .unset, .unset, .unset, .unset, .unset, .unset] [(.int ((p5.toUInt32 >>> ((2 : Int32) &&& 31).toUInt32).toInt32)), (.long (1 : Int64)), (.long (0 : Int64))])) _
                  refine XS.bipush X0.here hx rfl (hb hby at_82) ?_
                  show Steps p.tables e below (s₁.setTop (mkF m 84 #[.val (.int p1), .val (.long p2), .second, .val (.int p3), .val (.long p4), .second, .val (.int p5), .val (.int (1 : Int32)), .val (.int (1 : Int32)), .val (.long (0 : Int64)), .second, .val (.int (p5 &&& (3 : Int32))), .unset, .unset, .unset, .unset, .unset, .unset, .unset, .unset] [(.int (63 : Int32)), (.int ((p5.toUInt32 >>> ((2 : Int32) &&& 31).toUInt32).toInt32)), (.long (1 : Int64)), (.long (0 : Int64))])) _
                  refine XS.iand X0.here hx rfl (hb hby at_84) rfl ?_
                  show Steps p.tables e below (s₁.setTop (mkF m 85 #[.val (.int p1), .val (.long p2), .second, .val (.int p3), .val (.long p4), .second, .val (.int p5), .val (.int (1 : Int32)), .val (.int (1 : Int32)), .val (.long (0 : Int64)), .second, .val (.int (p5 &&& (3 : Int32))), .unset, .unset, .unset, .unset, .unset, .unset, .unset, .unset] [(.int (((p5.toUInt32 >>> ((2 : Int32) &&& 31).toUInt32).toInt32) &&& (63 : Int32))), (.long (1 : Int64)), (.long (0 : Int64))])) _
                  refine XS.lshl X0.here hx rfl (hb hby at_85) rfl ?_
                  show Steps p.tables e below (s₁.setTop (mkF m 86 #[.val (.int p1), .val (.long p2), .second, .val (.int p3), .val (.long p4), .second, .val (.int p5), .val (.int (1 : Int32)), .val (.int (1 : Int32)), .val (.long (0 : Int64)), .second, .val (.int (p5 &&& (3 : Int32))), .unset, .unset, .unset, .unset, .unset, .unset, .unset, .unset] [(.long ((1 : Int64) <<< ((((p5.toUInt32 >>> ((2 : Int32) &&& 31).toUInt32).toInt32) &&& (63 : Int32)) &&& 0x3f).toInt64)), (.long (0 : Int64))])) _
                  refine XS.lxor X0.here hx rfl (hb hby at_86) rfl ?_
                  show Steps p.tables e below (s₁.setTop (mkF m 87 #[.val (.int p1), .val (.long p2), .second, .val (.int p3), .val (.long p4), .second, .val (.int p5), .val (.int (1 : Int32)), .val (.int (1 : Int32)), .val (.long (0 : Int64)), .second, .val (.int (p5 &&& (3 : Int32))), .unset, .unset, .unset, .unset, .unset, .unset, .unset, .unset] [(.long ((0 : Int64) ^^^ ((1 : Int64) <<< ((((p5.toUInt32 >>> ((2 : Int32) &&& 31).toUInt32).toInt32) &&& (63 : Int32)) &&& 0x3f).toInt64)))])) _
                  refine XS.lstore X0.here hx rfl (hb hby at_87) rfl (l' := #[.val (.int p1), .val (.long p2), .second, .val (.int p3), .val (.long p4), .second, .val (.int p5), .val (.int (1 : Int32)), .val (.int (1 : Int32)), .val (.long (0 : Int64)), .second, .val (.int (p5 &&& (3 : Int32))), .val (.long ((0 : Int64) ^^^ ((1 : Int64) <<< ((((p5.toUInt32 >>> ((2 : Int32) &&& 31).toUInt32).toInt32) &&& (63 : Int32)) &&& 0x3f).toInt64))), .second, .unset, .unset, .unset, .unset, .unset, .unset]) rfl ?_
                  show Steps p.tables e below (s₁.setTop (mkF m 89 #[.val (.int p1), .val (.long p2), .second, .val (.int p3), .val (.long p4), .second, .val (.int p5), .val (.int (1 : Int32)), .val (.int (1 : Int32)), .val (.long (0 : Int64)), .second, .val (.int (p5 &&& (3 : Int32))), .val (.long ((0 : Int64) ^^^ ((1 : Int64) <<< ((((p5.toUInt32 >>> ((2 : Int32) &&& 31).toUInt32).toInt32) &&& (63 : Int32)) &&& 0x3f).toInt64))), .second, .unset, .unset, .unset, .unset, .unset, .unset] [])) _
                  refine XS.goto X0.here hx rfl (pc0 := 89) (pc' := 100) rfl (hb hby at_89) (by decide) (by decide) ?_
                  show Steps p.tables e below (s₁.setTop (mkF m 100 #[.val (.int p1), .val (.long p2), .second, .val (.int p3), .val (.long p4), .second, .val (.int p5), .val (.int (1 : Int32)), .val (.int (1 : Int32)), .val (.long (0 : Int64)), .second, .val (.int (p5 &&& (3 : Int32))), .val (.long ((0 : Int64) ^^^ ((1 : Int64) <<< ((((p5.toUInt32 >>> ((2 : Int32) &&& 31).toUInt32).toInt32) &&& (63 : Int32)) &&& 0x3f).toInt64))), .second, .unset, .unset, .unset, .unset, .unset, .unset] [])) _
                  exact k
                · skip
                  rw [(if_neg hd63 : (if (p5 &&& (3 : Int32)) = (2 : Int32) then ((0 : Int64) ^^^ ((1 : Int64) <<< ((((p5.toUInt32 >>> ((2 : Int32) &&& 31).toUInt32).toInt32) &&& (63 : Int32)) &&& 0x3f).toInt64)) else (-1 : Int64)) = (-1 : Int64))] at k
                  show Steps p.tables e below (s₁.setTop (mkF m 72 #[.val (.int p1), .val (.long p2), .second, .val (.int p3), .val (.long p4), .second, .val (.int p5), .val (.int (1 : Int32)), .val (.int (1 : Int32)), .val (.long (0 : Int64)), .second, .val (.int (p5 &&& (3 : Int32))), .unset, .unset, .unset, .unset, .unset, .unset, .unset, .unset] [(.int (2 : Int32)), (.int (p5 &&& (3 : Int32)))])) _
                  refine XS.icmpYes X0.here hx rfl (pc0 := 72) (pc' := 92) rfl (hb hby at_72) rfl (feq hd63).2 (by decide) (by decide) ?_
                  show Steps p.tables e below (s₁.setTop (mkF m 92 #[.val (.int p1), .val (.long p2), .second, .val (.int p3), .val (.long p4), .second, .val (.int p5), .val (.int (1 : Int32)), .val (.int (1 : Int32)), .val (.long (0 : Int64)), .second, .val (.int (p5 &&& (3 : Int32))), .unset, .unset, .unset, .unset, .unset, .unset, .unset, .unset] [])) _
                  refine XS.lload X0.here hx rfl (hb hby at_92) rfl ?_
                  show Steps p.tables e below (s₁.setTop (mkF m 94 #[.val (.int p1), .val (.long p2), .second, .val (.int p3), .val (.long p4), .second, .val (.int p5), .val (.int (1 : Int32)), .val (.int (1 : Int32)), .val (.long (0 : Int64)), .second, .val (.int (p5 &&& (3 : Int32))), .unset, .unset, .unset, .unset, .unset, .unset, .unset, .unset] [(.long (0 : Int64))])) _
                  refine X0.ldc2Long hx hown (mvT hZ (hw _ (List.mem_of_getElem? (i := 25) rfl))) (g := (mkF m 94 #[.val (.int p1), .val (.long p2), .second, .val (.int p3), .val (.long p4), .second, .val (.int p5), .val (.int (1 : Int32)), .val (.int (1 : Int32)), .val (.long (0 : Int64)), .second, .val (.int (p5 &&& (3 : Int32))), .unset, .unset, .unset, .unset, .unset, .unset, .unset, .unset] [(.long (0 : Int64))])) rfl (hb hby at_94) _ ?_
                  show Steps p.tables e below (s₁.setTop (mkF m 97 #[.val (.int p1), .val (.long p2), .second, .val (.int p3), .val (.long p4), .second, .val (.int p5), .val (.int (1 : Int32)), .val (.int (1 : Int32)), .val (.long (0 : Int64)), .second, .val (.int (p5 &&& (3 : Int32))), .unset, .unset, .unset, .unset, .unset, .unset, .unset, .unset] [(.long (-1 : Int64)), (.long (0 : Int64))])) _
                  refine XS.lxor X0.here hx rfl (hb hby at_97) rfl ?_
                  show Steps p.tables e below (s₁.setTop (mkF m 98 #[.val (.int p1), .val (.long p2), .second, .val (.int p3), .val (.long p4), .second, .val (.int p5), .val (.int (1 : Int32)), .val (.int (1 : Int32)), .val (.long (0 : Int64)), .second, .val (.int (p5 &&& (3 : Int32))), .unset, .unset, .unset, .unset, .unset, .unset, .unset, .unset] [(.long (-1 : Int64))])) _
                  refine XS.lstore X0.here hx rfl (hb hby at_98) rfl (l' := #[.val (.int p1), .val (.long p2), .second, .val (.int p3), .val (.long p4), .second, .val (.int p5), .val (.int (1 : Int32)), .val (.int (1 : Int32)), .val (.long (0 : Int64)), .second, .val (.int (p5 &&& (3 : Int32))), .val (.long (-1 : Int64)), .second, .unset, .unset, .unset, .unset, .unset, .unset]) rfl ?_
                  show Steps p.tables e below (s₁.setTop (mkF m 100 #[.val (.int p1), .val (.long p2), .second, .val (.int p3), .val (.long p4), .second, .val (.int p5), .val (.int (1 : Int32)), .val (.int (1 : Int32)), .val (.long (0 : Int64)), .second, .val (.int (p5 &&& (3 : Int32))), .val (.long (-1 : Int64)), .second, .unset, .unset, .unset, .unset, .unset, .unset] [])) _
                  exact k
              show Steps p.tables e below (s₁.setTop (mkF m 100 #[.val (.int p1), .val (.long p2), .second, .val (.int p3), .val (.long p4), .second, .val (.int p5), .val (.int (1 : Int32)), .val (.int (1 : Int32)), .val (.long (0 : Int64)), .second, .val (.int (p5 &&& (3 : Int32))), .val (.long (if (p5 &&& (3 : Int32)) = (2 : Int32) then ((0 : Int64) ^^^ ((1 : Int64) <<< ((((p5.toUInt32 >>> ((2 : Int32) &&& 31).toUInt32).toInt32) &&& (63 : Int32)) &&& 0x3f).toInt64)) else (-1 : Int64))), .second, .unset, .unset, .unset, .unset, .unset, .unset] [])) _
              exact k
          show Steps p.tables e below (s₁.setTop (mkF m 100 #[.val (.int p1), .val (.long p2), .second, .val (.int p3), .val (.long p4), .second, .val (.int p5), .val (.int (1 : Int32)), .val (.int (1 : Int32)), .val (.long (0 : Int64)), .second, .val (.int (p5 &&& (3 : Int32))), .val (.long (if (p5 &&& (3 : Int32)) = (1 : Int32) then (0 : Int64) else (if (p5 &&& (3 : Int32)) = (2 : Int32) then ((0 : Int64) ^^^ ((1 : Int64) <<< ((((p5.toUInt32 >>> ((2 : Int32) &&& 31).toUInt32).toInt32) &&& (63 : Int32)) &&& 0x3f).toInt64)) else (-1 : Int64)))), .second, .unset, .unset, .unset, .unset, .unset, .unset] [])) _
          exact k
      show Go p.tables e below s₁ (mkF m 100 #[.val (.int p1), .val (.long p2), .second, .val (.int p3), .val (.long p4), .second, .val (.int p5), .val (.int (1 : Int32)), .val (.int (1 : Int32)), .val (.long (0 : Int64)), .second, .val (.int (p5 &&& (3 : Int32))), .val (.long (if (p5 &&& (3 : Int32)) = (0 : Int32) then p4 else (if (p5 &&& (3 : Int32)) = (1 : Int32) then (0 : Int64) else (if (p5 &&& (3 : Int32)) = (2 : Int32) then ((0 : Int64) ^^^ ((1 : Int64) <<< ((((p5.toUInt32 >>> ((2 : Int32) &&& 31).toUInt32).toInt32) &&& (63 : Int32)) &&& 0x3f).toInt64)) else (-1 : Int64))))), .second, .unset, .unset, .unset, .unset, .unset, .unset] []) _
      obtain ⟨z64, hz64⟩ : ∃ z : Int64, z = (if (p5 &&& (3 : Int32)) = (0 : Int32) then p4 else (if (p5 &&& (3 : Int32)) = (1 : Int32) then (0 : Int64) else (if (p5 &&& (3 : Int32)) = (2 : Int32) then ((0 : Int64) ^^^ ((1 : Int64) <<< ((((p5.toUInt32 >>> ((2 : Int32) &&& 31).toUInt32).toInt32) &&& (63 : Int32)) &&& 0x3f).toInt64)) else (-1 : Int64)))) := ⟨_, rfl⟩
      rw [← hz64]
      show Go p.tables e below s₁ (mkF m 100 #[.val (.int p1), .val (.long p2), .second, .val (.int p3), .val (.long p4), .second, .val (.int p5), .val (.int (1 : Int32)), .val (.int (1 : Int32)), .val (.long (0 : Int64)), .second, .val (.int (p5 &&& (3 : Int32))), .val (.long z64), .second, .unset, .unset, .unset, .unset, .unset, .unset] []) _
      refine go1 (fun _ => XS.iload X0.here hx rfl (hb hby at_100) rfl) ?_
      show Go p.tables e below s₁ (mkF m 102 #[.val (.int p1), .val (.long p2), .second, .val (.int p3), .val (.long p4), .second, .val (.int p5), .val (.int (1 : Int32)), .val (.int (1 : Int32)), .val (.long (0 : Int64)), .second, .val (.int (p5 &&& (3 : Int32))), .val (.long z64), .second, .unset, .unset, .unset, .unset, .unset, .unset] [(.int (1 : Int32))]) _
      refine go1 (fun _ => XS.ifNo X0.here hx rfl (hb hby at_102) rfl ((if0 _ _).trans (feq (by decide : ¬ ((1 : Int32) = (0 : Int32)))).1)) ?_
      show Go p.tables e below s₁ (mkF m 105 #[.val (.int p1), .val (.long p2), .second, .val (.int p3), .val (.long p4), .second, .val (.int p5), .val (.int (1 : Int32)), .val (.int (1 : Int32)), .val (.long (0 : Int64)), .second, .val (.int (p5 &&& (3 : Int32))), .val (.long z64), .second, .unset, .unset, .unset, .unset, .unset, .unset] []) _
      refine go1 (fun _ => XS.lconst X0.here hx rfl (hb hby at_105)) ?_
      show Go p.tables e below s₁ (mkF m 106 #[.val (.int p1), .val (.long p2), .second, .val (.int p3), .val (.long p4), .second, .val (.int p5), .val (.int (1 : Int32)), .val (.int (1 : Int32)), .val (.long (0 : Int64)), .second, .val (.int (p5 &&& (3 : Int32))), .val (.long z64), .second, .unset, .unset, .unset, .unset, .unset, .unset] [(.long (0 : Int64))]) _
      refine go1 (fun _ => XS.goto X0.here hx rfl (pc0 := 106) (pc' := 111) rfl (hb hby at_106) (by decide) (by decide)) ?_
      show Go p.tables e below s₁ (mkF m 111 #[.val (.int p1), .val (.long p2), .second, .val (.int p3), .val (.long p4), .second, .val (.int p5), .val (.int (1 : Int32)), .val (.int (1 : Int32)), .val (.long (0 : Int64)), .second, .val (.int (p5 &&& (3 : Int32))), .val (.long z64), .second, .unset, .unset, .unset, .unset, .unset, .unset] [(.long (0 : Int64))]) _
      refine go1 (fun _ => XS.lstore X0.here hx rfl (hb hby at_111) rfl (l' := #[.val (.int p1), .val (.long p2), .second, .val (.int p3), .val (.long p4), .second, .val (.int p5), .val (.int (1 : Int32)), .val (.int (1 : Int32)), .val (.long (0 : Int64)), .second, .val (.int (p5 &&& (3 : Int32))), .val (.long z64), .second, .val (.long (0 : Int64)), .second, .unset, .unset, .unset, .unset]) rfl) ?_
      show Go p.tables e below s₁ (mkF m 113 #[.val (.int p1), .val (.long p2), .second, .val (.int p3), .val (.long p4), .second, .val (.int p5), .val (.int (1 : Int32)), .val (.int (1 : Int32)), .val (.long (0 : Int64)), .second, .val (.int (p5 &&& (3 : Int32))), .val (.long z64), .second, .val (.long (0 : Int64)), .second, .unset, .unset, .unset, .unset] []) _
      obtain ⟨T65, h65, X65, e65, E65, A65, D65, -, st65⟩ := newO X0 hx hZ hown (hw _ (List.mem_of_getElem? (i := 0) rfl)) (hw _ (List.mem_of_getElem? (i := 1) rfl)) (hw _ (List.mem_of_getElem? (i := 2) rfl)) e0 (g := (mkF m 113 #[.val (.int p1), .val (.long p2), .second, .val (.int p3), .val (.long p4), .second, .val (.int p5), .val (.int (1 : Int32)), .val (.int (1 : Int32)), .val (.long (0 : Int64)), .second, .val (.int (p5 &&& (3 : Int32))), .val (.long z64), .second, .val (.long (0 : Int64)), .second, .unset, .unset, .unset, .unset] [])) rfl (hb hby at_113) (by decide) (by decide)
      obtain ⟨b65, g65⟩ : ∃ z, z = h0.size := ⟨_, rfl⟩
      rw [← g65] at A65 D65 st65
      have g_b65 : n0 ≤ b65 := Nat.le_trans Z0 (Nat.le_of_eq g65.symm)
      have F_isDefault_b65 : Fld Z h65 b65 "com/example/stubwright/stubwright/idl/UnionType$Label" "isDefault" "Z" (.int (0 : Int32)) := D65 (Or.inr (hw _ (List.mem_of_getElem? (i := 15) rfl))) (ty := .boolean) (by decide)
      have F_value_b65 : Fld Z h65 b65 "com/example/stubwright/stubwright/idl/UnionType$Label" "value" "J" (.long (0 : Int64)) := D65 (Or.inr (hw _ (List.mem_of_getElem? (i := 17) rfl))) (ty := .long) (by decide)
      refine go1 st65 ?_
      show Go p.tables e below T65 (mkF m 116 #[.val (.int p1), .val (.long p2), .second, .val (.int p3), .val (.long p4), .second, .val (.int p5), .val (.int (1 : Int32)), .val (.int (1 : Int32)), .val (.long (0 : Int64)), .second, .val (.int (p5 &&& (3 : Int32))), .val (.long z64), .second, .val (.long (0 : Int64)), .second, .unset, .unset, .unset, .unset] [(.ref b65)]) _
      refine go1 (fun _ => XS.dup X65.here hx rfl (hb hby at_116) rfl rfl) ?_
      show Go p.tables e below T65 (mkF m 117 #[.val (.int p1), .val (.long p2), .second, .val (.int p3), .val (.long p4), .second, .val (.int p5), .val (.int (1 : Int32)), .val (.int (1 : Int32)), .val (.long (0 : Int64)), .second, .val (.int (p5 &&& (3 : Int32))), .val (.long z64), .second, .val (.long (0 : Int64)), .second, .unset, .unset, .unset, .unset] [(.ref b65), (.ref b65)]) _
      refine go1 (fun _ => XS.iload X65.here hx rfl (hb hby at_117) rfl) ?_
      show Go p.tables e below T65 (mkF m 119 #[.val (.int p1), .val (.long p2), .second, .val (.int p3), .val (.long p4), .second, .val (.int p5), .val (.int (1 : Int32)), .val (.int (1 : Int32)), .val (.long (0 : Int64)), .second, .val (.int (p5 &&& (3 : Int32))), .val (.long z64), .second, .val (.long (0 : Int64)), .second, .unset, .unset, .unset, .unset] [(.int (1 : Int32)), (.ref b65), (.ref b65)]) _
      refine go1 (fun _ => XS.lload X65.here hx rfl (hb hby at_119) rfl) ?_
      show Go p.tables e below T65 (mkF m 121 #[.val (.int p1), .val (.long p2), .second, .val (.int p3), .val (.long p4), .second, .val (.int p5), .val (.int (1 : Int32)), .val (.int (1 : Int32)), .val (.long (0 : Int64)), .second, .val (.int (p5 &&& (3 : Int32))), .val (.long z64), .second, .val (.long (0 : Int64)), .second, .unset, .unset, .unset, .unset] [(.long (0 : Int64)), (.int (1 : Int32)), (.ref b65), (.ref b65)]) _
      obtain ⟨_, _, ⟨T66, L66, k66, n66⟩, -, X66, ⟨Lc66, hQ66, l66, y66, z66⟩, st66⟩ := X65.specialBack hx (y := (⟨"com/example/stubwright/stubwright/idl/UnionType$Label", "<init>", "(ZJ)V"⟩ : MethodName)) rfl hown (mvT hZ (hw _ (List.mem_of_getElem? (i := 3) rfl))) (mvT hZ (hw _ (List.mem_of_getElem? (i := 4) rfl))) (mvT hZ (hw _ (List.mem_of_getElem? (i := 5) rfl))) (by decide) (backOf (W := 1) (rm1b l Z a0 hw [] b65 h65 n0 (Nat.le_trans Z0 E65.1) F_isDefault_b65 F_value_b65 A65 g_b65) hZ (hw _ (List.mem_of_getElem? (i := 5) rfl)) (hw _ (List.mem_of_getElem? (i := 2) rfl)) (by decide) (by decide)) (g := (mkF m 121 #[.val (.int p1), .val (.long p2), .second, .val (.int p3), .val (.long p4), .second, .val (.int p5), .val (.int (1 : Int32)), .val (.int (1 : Int32)), .val (.long (0 : Int64)), .second, .val (.int (p5 &&& (3 : Int32))), .val (.long z64), .second, .val (.long (0 : Int64)), .second, .unset, .unset, .unset, .unset] [(.long (0 : Int64)), (.int (1 : Int32)), (.ref b65), (.ref b65)])) rfl (by rw [hml]; rfl) (Steps.refl _) (a := b65) (argsL := [(.int (1 : Int32)), (.long (0 : Int64))]) (rest := [(.ref b65)]) (lenOf pd0_0 rfl) rfl (by show 2 * 0 + _ ≤ _; exact Nat.le_of_eq rfl) (hb hby at_121) (fun _ _ => ⟨rfl, e65, (by decide : 1 + 0 ≤ _), (by decide : 2 + 0 ≤ _)⟩)
      dsimp only [Pt.U, Pt.locs, Pt.cells, Pt.slots] at X66 l66 y66 z66 st66 hQ66
      subst l66 y66 z66
      obtain ⟨rfl, N66q, K66, G66_0, G66_1, G66_2⟩ := hQ66
      have N66 := Fr.app N0 N66q
      refine goT st66 ?_
      show Go p.tables e below T66 (mkF m 124 #[.val (.int p1), .val (.long p2), .second, .val (.int p3), .val (.long p4), .second, .val (.int p5), .val (.int (1 : Int32)), .val (.int (1 : Int32)), .val (.long (0 : Int64)), .second, .val (.int (p5 &&& (3 : Int32))), .val (.long z64), .second, .val (.long (0 : Int64)), .second, .unset, .unset, .unset, .unset] [(.ref b65)]) _
      refine go1 (fun _ => XS.astore X66.here hx rfl (hb hby at_124) rfl rfl (l' := #[.val (.int p1), .val (.long p2), .second, .val (.int p3), .val (.long p4), .second, .val (.int p5), .val (.int (1 : Int32)), .val (.int (1 : Int32)), .val (.long (0 : Int64)), .second, .val (.int (p5 &&& (3 : Int32))), .val (.long z64), .second, .val (.long (0 : Int64)), .second, .val (.ref b65), .unset, .unset, .unset]) rfl) ?_
      show Go p.tables e below T66 (mkF m 126 #[.val (.int p1), .val (.long p2), .second, .val (.int p3), .val (.long p4), .second, .val (.int p5), .val (.int (1 : Int32)), .val (.int (1 : Int32)), .val (.long (0 : Int64)), .second, .val (.int (p5 &&& (3 : Int32))), .val (.long z64), .second, .val (.long (0 : Int64)), .second, .val (.ref b65), .unset, .unset, .unset] []) _
      obtain ⟨T67, h67, X67, e67, E67, A67, D67, -, st67⟩ := newO X66 hx hZ hown (hw _ (List.mem_of_getElem? (i := 0) rfl)) (hw _ (List.mem_of_getElem? (i := 1) rfl)) (hw _ (List.mem_of_getElem? (i := 2) rfl)) rfl (g := (mkF m 126 #[.val (.int p1), .val (.long p2), .second, .val (.int p3), .val (.long p4), .second, .val (.int p5), .val (.int (1 : Int32)), .val (.int (1 : Int32)), .val (.long (0 : Int64)), .second, .val (.int (p5 &&& (3 : Int32))), .val (.long z64), .second, .val (.long (0 : Int64)), .second, .val (.ref b65), .unset, .unset, .unset] [])) rfl (hb hby at_126) (by decide) (by decide)
      obtain ⟨b67, g67⟩ : ∃ z, z = T66.heap.size := ⟨_, rfl⟩
      rw [← g67] at A67 D67 st67
      have g_b67 : n0 ≤ b67 := Nat.le_trans (Nat.le_trans (Nat.le_trans Z0 E65.1) K66.1) (Nat.le_of_eq g67.symm)
      have F_isDefault_b67 : Fld Z h67 b67 "com/example/stubwright/stubwright/idl/UnionType$Label" "isDefault" "Z" (.int (0 : Int32)) := D67 (Or.inr (hw _ (List.mem_of_getElem? (i := 15) rfl))) (ty := .boolean) (by decide)
      have F_value_b67 : Fld Z h67 b67 "com/example/stubwright/stubwright/idl/UnionType$Label" "value" "J" (.long (0 : Int64)) := D67 (Or.inr (hw _ (List.mem_of_getElem? (i := 17) rfl))) (ty := .long) (by decide)
      refine go1 st67 ?_
      show Go p.tables e below T67 (mkF m 129 #[.val (.int p1), .val (.long p2), .second, .val (.int p3), .val (.long p4), .second, .val (.int p5), .val (.int (1 : Int32)), .val (.int (1 : Int32)), .val (.long (0 : Int64)), .second, .val (.int (p5 &&& (3 : Int32))), .val (.long z64), .second, .val (.long (0 : Int64)), .second, .val (.ref b65), .unset, .unset, .unset] [(.ref b67)]) _
      refine go1 (fun _ => XS.dup X67.here hx rfl (hb hby at_129) rfl rfl) ?_
      show Go p.tables e below T67 (mkF m 130 #[.val (.int p1), .val (.long p2), .second, .val (.int p3), .val (.long p4), .second, .val (.int p5), .val (.int (1 : Int32)), .val (.int (1 : Int32)), .val (.long (0 : Int64)), .second, .val (.int (p5 &&& (3 : Int32))), .val (.long z64), .second, .val (.long (0 : Int64)), .second, .val (.ref b65), .unset, .unset, .unset] [(.ref b67), (.ref b67)]) _
      refine go1 (fun _ => XS.iload X67.here hx rfl (hb hby at_130) rfl) ?_
      show Go p.tables e below T67 (mkF m 132 #[.val (.int p1), .val (.long p2), .second, .val (.int p3), .val (.long p4), .second, .val (.int p5), .val (.int (1 : Int32)), .val (.int (1 : Int32)), .val (.long (0 : Int64)), .second, .val (.int (p5 &&& (3 : Int32))), .val (.long z64), .second, .val (.long (0 : Int64)), .second, .val (.ref b65), .unset, .unset, .unset] [(.int (1 : Int32)), (.ref b67), (.ref b67)]) _
      refine go1 (fun _ => XS.lload X67.here hx rfl (hb hby at_132) rfl) ?_
      show Go p.tables e below T67 (mkF m 134 #[.val (.int p1), .val (.long p2), .second, .val (.int p3), .val (.long p4), .second, .val (.int p5), .val (.int (1 : Int32)), .val (.int (1 : Int32)), .val (.long (0 : Int64)), .second, .val (.int (p5 &&& (3 : Int32))), .val (.long z64), .second, .val (.long (0 : Int64)), .second, .val (.ref b65), .unset, .unset, .unset] [(.long (0 : Int64)), (.int (1 : Int32)), (.ref b67), (.ref b67)]) _
      obtain ⟨_, _, ⟨T68, L68, k68, n68⟩, -, X68, ⟨Lc68, hQ68, l68, y68, z68⟩, st68⟩ := X67.specialBack hx (y := (⟨"com/example/stubwright/stubwright/idl/UnionType$Label", "<init>", "(ZJ)V"⟩ : MethodName)) rfl hown (mvT hZ (hw _ (List.mem_of_getElem? (i := 3) rfl))) (mvT hZ (hw _ (List.mem_of_getElem? (i := 4) rfl))) (mvT hZ (hw _ (List.mem_of_getElem? (i := 5) rfl))) (by decide) (backOf (W := 1) (rm1b l Z a0 hw [] b67 h67 n0 (Nat.le_trans (Nat.le_trans (Nat.le_trans Z0 E65.1) K66.1) E67.1) F_isDefault_b67 F_value_b67 A67 g_b67) hZ (hw _ (List.mem_of_getElem? (i := 5) rfl)) (hw _ (List.mem_of_getElem? (i := 2) rfl)) (by decide) (by decide)) (g := (mkF m 134 #[.val (.int p1), .val (.long p2), .second, .val (.int p3), .val (.long p4), .second, .val (.int p5), .val (.int (1 : Int32)), .val (.int (1 : Int32)), .val (.long (0 : Int64)), .second, .val (.int (p5 &&& (3 : Int32))), .val (.long z64), .second, .val (.long (0 : Int64)), .second, .val (.ref b65), .unset, .unset, .unset] [(.long (0 : Int64)), (.int (1 : Int32)), (.ref b67), (.ref b67)])) rfl (by rw [hml]; rfl) (Steps.refl _) (a := b67) (argsL := [(.int (1 : Int32)), (.long (0 : Int64))]) (rest := [(.ref b67)]) (lenOf pd0_0 rfl) rfl (by show 2 * 0 + _ ≤ _; exact Nat.le_of_eq rfl) (hb hby at_134) (fun _ _ => ⟨rfl, e67, (by decide : 2 + 0 ≤ _), (by decide : 4 + 0 ≤ _)⟩)
      dsimp only [Pt.U, Pt.locs, Pt.cells, Pt.slots] at X68 l68 y68 z68 st68 hQ68
      subst l68 y68 z68
      obtain ⟨rfl, N68q, K68, G68_0, G68_1, G68_2⟩ := hQ68
      have N68 := Fr.app N66 N68q
      refine goT st68 ?_
      show Go p.tables e below T68 (mkF m 137 #[.val (.int p1), .val (.long p2), .second, .val (.int p3), .val (.long p4), .second, .val (.int p5), .val (.int (1 : Int32)), .val (.int (1 : Int32)), .val (.long (0 : Int64)), .second, .val (.int (p5 &&& (3 : Int32))), .val (.long z64), .second, .val (.long (0 : Int64)), .second, .val (.ref b65), .unset, .unset, .unset] [(.ref b67)]) _
      refine go1 (fun _ => XS.astore X68.here hx rfl (hb hby at_137) rfl rfl (l' := #[.val (.int p1), .val (.long p2), .second, .val (.int p3), .val (.long p4), .second, .val (.int p5), .val (.int (1 : Int32)), .val (.int (1 : Int32)), .val (.long (0 : Int64)), .second, .val (.int (p5 &&& (3 : Int32))), .val (.long z64), .second, .val (.long (0 : Int64)), .second, .val (.ref b65), .val (.ref b67), .unset, .unset]) rfl) ?_
      show Go p.tables e below T68 (mkF m 139 #[.val (.int p1), .val (.long p2), .second, .val (.int p3), .val (.long p4), .second, .val (.int p5), .val (.int (1 : Int32)), .val (.int (1 : Int32)), .val (.long (0 : Int64)), .second, .val (.int (p5 &&& (3 : Int32))), .val (.long z64), .second, .val (.long (0 : Int64)), .second, .val (.ref b65), .val (.ref b67), .unset, .unset] []) _
      refine go1 (fun _ => XS.iload X68.here hx rfl (hb hby at_139) rfl) ?_
      show Go p.tables e below T68 (mkF m 141 #[.val (.int p1), .val (.long p2), .second, .val (.int p3), .val (.long p4), .second, .val (.int p5), .val (.int (1 : Int32)), .val (.int (1 : Int32)), .val (.long (0 : Int64)), .second, .val (.int (p5 &&& (3 : Int32))), .val (.long z64), .second, .val (.long (0 : Int64)), .second, .val (.ref b65), .val (.ref b67), .unset, .unset] [(.int p5)]) _
      refine go1 (fun _ => XS.bipush X68.here hx rfl (hb hby at_141)) ?_
      show Go p.tables e below T68 (mkF m 143 #[.val (.int p1), .val (.long p2), .second, .val (.int p3), .val (.long p4), .second, .val (.int p5), .val (.int (1 : Int32)), .val (.int (1 : Int32)), .val (.long (0 : Int64)), .second, .val (.int (p5 &&& (3 : Int32))), .val (.long z64), .second, .val (.long (0 : Int64)), .second, .val (.ref b65), .val (.ref b67), .unset, .unset] [(.int (8 : Int32)), (.int p5)]) _
      refine go1 (fun _ => XS.iushr X68.here hx rfl (hb hby at_143) rfl) ?_
      show Go p.tables e below T68 (mkF m 144 #[.val (.int p1), .val (.long p2), .second, .val (.int p3), .val (.long p4), .second, .val (.int p5), .val (.int (1 : Int32)), .val (.int (1 : Int32)), .val (.long (0 : Int64)), .second, .val (.int (p5 &&& (3 : Int32))), .val (.long z64), .second, .val (.long (0 : Int64)), .second, .val (.ref b65), .val (.ref b67), .unset, .unset] [(.int ((p5.toUInt32 >>> ((8 : Int32) &&& 31).toUInt32).toInt32))]) _
      refine go1 (fun _ => XS.iconst X68.here hx rfl (hb hby at_144)) ?_
      show Go p.tables e below T68 (mkF m 145 #[.val (.int p1), .val (.long p2), .second, .val (.int p3), .val (.long p4), .second, .val (.int p5), .val (.int (1 : Int32)), .val (.int (1 : Int32)), .val (.long (0 : Int64)), .second, .val (.int (p5 &&& (3 : Int32))), .val (.long z64), .second, .val (.long (0 : Int64)), .second, .val (.ref b65), .val (.ref b67), .unset, .unset] [(.int (3 : Int32)), (.int ((p5.toUInt32 >>> ((8 : Int32) &&& 31).toUInt32).toInt32))]) _
      refine go1 (fun _ => XS.iand X68.here hx rfl (hb hby at_145) rfl) ?_
      show Go p.tables e below T68 (mkF m 146 #[.val (.int p1), .val (.long p2), .second, .val (.int p3), .val (.long p4), .second, .val (.int p5), .val (.int (1 : Int32)), .val (.int (1 : Int32)), .val (.long (0 : Int64)), .second, .val (.int (p5 &&& (3 : Int32))), .val (.long z64), .second, .val (.long (0 : Int64)), .second, .val (.ref b65), .val (.ref b67), .unset, .unset] [(.int (((p5.toUInt32 >>> ((8 : Int32) &&& 31).toUInt32).toInt32) &&& (3 : Int32)))]) _
      refine go1 (fun _ => XS.istore X68.here hx rfl (hb hby at_146) rfl (l' := #[.val (.int p1), .val (.long p2), .second, .val (.int p3), .val (.long p4), .second, .val (.int p5), .val (.int (1 : Int32)), .val (.int (1 : Int32)), .val (.long (0 : Int64)), .second, .val (.int (p5 &&& (3 : Int32))), .val (.long z64), .second, .val (.long (0 : Int64)), .second, .val (.ref b65), .val (.ref b67), .val (.int (((p5.toUInt32 >>> ((8 : Int32) &&& 31).toUInt32).toInt32) &&& (3 : Int32))), .unset]) rfl) ?_
      show Go p.tables e below T68 (mkF m 148 #[.val (.int p1), .val (.long p2), .second, .val (.int p3), .val (.long p4), .second, .val (.int p5), .val (.int (1 : Int32)), .val (.int (1 : Int32)), .val (.long (0 : Int64)), .second, .val (.int (p5 &&& (3 : Int32))), .val (.long z64), .second, .val (.long (0 : Int64)), .second, .val (.ref b65), .val (.ref b67), .val (.int (((p5.toUInt32 >>> ((8 : Int32) &&& 31).toUInt32).toInt32) &&& (3 : Int32))), .unset] []) _
      refine go1 (fun _ => XS.iload X68.here hx rfl (hb hby at_148) rfl) ?_
      show Go p.tables e below T68 (mkF m 150 #[.val (.int p1), .val (.long p2), .second, .val (.int p3), .val (.long p4), .second, .val (.int p5), .val (.int (1 : Int32)), .val (.int (1 : Int32)), .val (.long (0 : Int64)), .second, .val (.int (p5 &&& (3 : Int32))), .val (.long z64), .second, .val (.long (0 : Int64)), .second, .val (.ref b65), .val (.ref b67), .val (.int (((p5.toUInt32 >>> ((8 : Int32) &&& 31).toUInt32).toInt32) &&& (3 : Int32))), .unset] [(.int (((p5.toUInt32 >>> ((8 : Int32) &&& 31).toUInt32).toInt32) &&& (3 : Int32)))]) _
      by_cases hc69 : (((p5.toUInt32 >>> ((8 : Int32) &&& 31).toUInt32).toInt32) &&& (3 : Int32)) = (0 : Int32)
      · skip
        refine go1 (fun _ => XS.ifNo X68.here hx rfl (hb hby at_150) rfl ((if0 _ _).trans (teq hc69).2)) ?_
        show Go p.tables e below T68 (mkF m 153 #[.val (.int p1), .val (.long p2), .second, .val (.int p3), .val (.long p4), .second, .val (.int p5), .val (.int (1 : Int32)), .val (.int (1 : Int32)), .val (.long (0 : Int64)), .second, .val (.int (p5 &&& (3 : Int32))), .val (.long z64), .second, .val (.long (0 : Int64)), .second, .val (.ref b65), .val (.ref b67), .val (.int (((p5.toUInt32 >>> ((8 : Int32) &&& 31).toUInt32).toInt32) &&& (3 : Int32))), .unset] []) _
        refine go1 (fun _ => XS.iload X68.here hx rfl (hb hby at_153) rfl) ?_
        show Go p.tables e below T68 (mkF m 155 #[.val (.int p1), .val (.long p2), .second, .val (.int p3), .val (.long p4), .second, .val (.int p5), .val (.int (1 : Int32)), .val (.int (1 : Int32)), .val (.long (0 : Int64)), .second, .val (.int (p5 &&& (3 : Int32))), .val (.long z64), .second, .val (.long (0 : Int64)), .second, .val (.ref b65), .val (.ref b67), .val (.int (((p5.toUInt32 >>> ((8 : Int32) &&& 31).toUInt32).toInt32) &&& (3 : Int32))), .unset] [(.int (1 : Int32))]) _
        refine go1 (fun _ => XS.iload X68.here hx rfl (hb hby at_155) rfl) ?_
        show Go p.tables e below T68 (mkF m 157 #[.val (.int p1), .val (.long p2), .second, .val (.int p3), .val (.long p4), .second, .val (.int p5), .val (.int (1 : Int32)), .val (.int (1 : Int32)), .val (.long (0 : Int64)), .second, .val (.int (p5 &&& (3 : Int32))), .val (.long z64), .second, .val (.long (0 : Int64)), .second, .val (.ref b65), .val (.ref b67), .val (.int (((p5.toUInt32 >>> ((8 : Int32) &&& 31).toUInt32).toInt32) &&& (3 : Int32))), .unset] [(.int (1 : Int32)), (.int (1 : Int32))]) _
        refine go1 (fun _ => XS.icmpNo X68.here hx rfl (hb hby at_157) rfl (teq (by decide : (1 : Int32) = (1 : Int32))).2) ?_
        show Go p.tables e below T68 (mkF m 160 #[.val (.int p1), .val (.long p2), .second, .val (.int p3), .val (.long p4), .second, .val (.int p5), .val (.int (1 : Int32)), .val (.int (1 : Int32)), .val (.long (0 : Int64)), .second, .val (.int (p5 &&& (3 : Int32))), .val (.long z64), .second, .val (.long (0 : Int64)), .second, .val (.ref b65), .val (.ref b67), .val (.int (((p5.toUInt32 >>> ((8 : Int32) &&& 31).toUInt32).toInt32) &&& (3 : Int32))), .unset] []) _
        refine go1 (fun _ => XS.lload X68.here hx rfl (hb hby at_160) rfl) ?_
        show Go p.tables e below T68 (mkF m 162 #[.val (.int p1), .val (.long p2), .second, .val (.int p3), .val (.long p4), .second, .val (.int p5), .val (.int (1 : Int32)), .val (.int (1 : Int32)), .val (.long (0 : Int64)), .second, .val (.int (p5 &&& (3 : Int32))), .val (.long z64), .second, .val (.long (0 : Int64)), .second, .val (.ref b65), .val (.ref b67), .val (.int (((p5.toUInt32 >>> ((8 : Int32) &&& 31).toUInt32).toInt32) &&& (3 : Int32))), .unset] [(.long (0 : Int64))]) _
        refine go1 (fun _ => XS.lload X68.here hx rfl (hb hby at_162) rfl) ?_
        show Go p.tables e below T68 (mkF m 164 #[.val (.int p1), .val (.long p2), .second, .val (.int p3), .val (.long p4), .second, .val (.int p5), .val (.int (1 : Int32)), .val (.int (1 : Int32)), .val (.long (0 : Int64)), .second, .val (.int (p5 &&& (3 : Int32))), .val (.long z64), .second, .val (.long (0 : Int64)), .second, .val (.ref b65), .val (.ref b67), .val (.int (((p5.toUInt32 >>> ((8 : Int32) &&& 31).toUInt32).toInt32) &&& (3 : Int32))), .unset] [(.long (0 : Int64)), (.long (0 : Int64))]) _
        refine go1 (fun _ => XS.lcmp X68.here hx rfl (hb hby at_164) rfl) ?_
        show Go p.tables e below T68 (mkF m 165 #[.val (.int p1), .val (.long p2), .second, .val (.int p3), .val (.long p4), .second, .val (.int p5), .val (.int (1 : Int32)), .val (.int (1 : Int32)), .val (.long (0 : Int64)), .second, .val (.int (p5 &&& (3 : Int32))), .val (.long z64), .second, .val (.long (0 : Int64)), .second, .val (.ref b65), .val (.ref b67), .val (.int (((p5.toUInt32 >>> ((8 : Int32) &&& 31).toUInt32).toInt32) &&& (3 : Int32))), .unset] [(.int (lcmpW (0 : Int64) (0 : Int64)))]) _
        refine go1 (fun _ => XS.ifNo X68.here hx rfl (hb hby at_165) rfl ((if0 _ _).trans (teq ((lw_eq _ _).mpr (by decide : (0 : Int64) = (0 : Int64)))).2)) ?_
        show Go p.tables e below T68 (mkF m 168 #[.val (.int p1), .val (.long p2), .second, .val (.int p3), .val (.long p4), .second, .val (.int p5), .val (.int (1 : Int32)), .val (.int (1 : Int32)), .val (.long (0 : Int64)), .second, .val (.int (p5 &&& (3 : Int32))), .val (.long z64), .second, .val (.long (0 : Int64)), .second, .val (.ref b65), .val (.ref b67), .val (.int (((p5.toUInt32 >>> ((8 : Int32) &&& 31).toUInt32).toInt32) &&& (3 : Int32))), .unset] []) _
        refine go1 (fun _ => XS.iconst X68.here hx rfl (hb hby at_168)) ?_
        show Go p.tables e below T68 (mkF m 169 #[.val (.int p1), .val (.long p2), .second, .val (.int p3), .val (.long p4), .second, .val (.int p5), .val (.int (1 : Int32)), .val (.int (1 : Int32)), .val (.long (0 : Int64)), .second, .val (.int (p5 &&& (3 : Int32))), .val (.long z64), .second, .val (.long (0 : Int64)), .second, .val (.ref b65), .val (.ref b67), .val (.int (((p5.toUInt32 >>> ((8 : Int32) &&& 31).toUInt32).toInt32) &&& (3 : Int32))), .unset] [(.int (1 : Int32))]) _
        refine go1 (fun _ => XS.goto X68.here hx rfl (pc0 := 169) (pc' := 173) rfl (hb hby at_169) (by decide) (by decide)) ?_
        show Go p.tables e below T68 (mkF m 173 #[.val (.int p1), .val (.long p2), .second, .val (.int p3), .val (.long p4), .second, .val (.int p5), .val (.int (1 : Int32)), .val (.int (1 : Int32)), .val (.long (0 : Int64)), .second, .val (.int (p5 &&& (3 : Int32))), .val (.long z64), .second, .val (.long (0 : Int64)), .second, .val (.ref b65), .val (.ref b67), .val (.int (((p5.toUInt32 >>> ((8 : Int32) &&& 31).toUInt32).toInt32) &&& (3 : Int32))), .unset] [(.int (1 : Int32))]) _
        refine go1 (fun _ => XS.istore X68.here hx rfl (hb hby at_173) rfl (l' := #[.val (.int p1), .val (.long p2), .second, .val (.int p3), .val (.long p4), .second, .val (.int p5), .val (.int (1 : Int32)), .val (.int (1 : Int32)), .val (.long (0 : Int64)), .second, .val (.int (p5 &&& (3 : Int32))), .val (.long z64), .second, .val (.long (0 : Int64)), .second, .val (.ref b65), .val (.ref b67), .val (.int (((p5.toUInt32 >>> ((8 : Int32) &&& 31).toUInt32).toInt32) &&& (3 : Int32))), .val (.int (1 : Int32))]) rfl) ?_
        show Go p.tables e below T68 (mkF m 175 #[.val (.int p1), .val (.long p2), .second, .val (.int p3), .val (.long p4), .second, .val (.int p5), .val (.int (1 : Int32)), .val (.int (1 : Int32)), .val (.long (0 : Int64)), .second, .val (.int (p5 &&& (3 : Int32))), .val (.long z64), .second, .val (.long (0 : Int64)), .second, .val (.ref b65), .val (.ref b67), .val (.int (((p5.toUInt32 >>> ((8 : Int32) &&& 31).toUInt32).toInt32) &&& (3 : Int32))), .val (.int (1 : Int32))] []) _
        refine go1 (fun _ => XS.aload X68.here hx rfl (hb hby at_175) rfl rfl) ?_
        show Go p.tables e below T68 (mkF m 177 #[.val (.int p1), .val (.long p2), .second, .val (.int p3), .val (.long p4), .second, .val (.int p5), .val (.int (1 : Int32)), .val (.int (1 : Int32)), .val (.long (0 : Int64)), .second, .val (.int (p5 &&& (3 : Int32))), .val (.long z64), .second, .val (.long (0 : Int64)), .second, .val (.ref b65), .val (.ref b67), .val (.int (((p5.toUInt32 >>> ((8 : Int32) &&& 31).toUInt32).toInt32) &&& (3 : Int32))), .val (.int (1 : Int32))] [(.ref b65)]) _
        refine go1 (fun _ => XS.aload X68.here hx rfl (hb hby at_177) rfl rfl) ?_
        show Go p.tables e below T68 (mkF m 179 #[.val (.int p1), .val (.long p2), .second, .val (.int p3), .val (.long p4), .second, .val (.int p5), .val (.int (1 : Int32)), .val (.int (1 : Int32)), .val (.long (0 : Int64)), .second, .val (.int (p5 &&& (3 : Int32))), .val (.long z64), .second, .val (.long (0 : Int64)), .second, .val (.ref b65), .val (.ref b67), .val (.int (((p5.toUInt32 >>> ((8 : Int32) &&& 31).toUInt32).toInt32) &&& (3 : Int32))), .val (.int (1 : Int32))] [(.ref b67), (.ref b65)]) _
        obtain ⟨cq70, kq70, q70a, q70b, q70c⟩ := isOf hZ rfl ((G66_0.ext E67).keep K68)
        obtain ⟨_, _, ⟨T70, L70, k70, n70⟩, -, X70, ⟨Lc70, hQ70, l70, y70, z70⟩, st70⟩ := X68.virtualBack hx (y := (⟨"com/example/stubwright/stubwright/idl/UnionType$Label", "equals", "(Ljava/lang/Object;)Z"⟩ : MethodName)) (z := (⟨"com/example/stubwright/stubwright/idl/UnionType$Label", "equals", "(Ljava/lang/Object;)Z"⟩ : MethodName)) hown (mvT hZ (hw _ (List.mem_of_getElem? (i := 18) rfl))) (mvT hZ (hw _ (List.mem_of_getElem? (i := 19) rfl))) (notFace_of_selects (args := #[]) (mvT hZ (hw _ (List.mem_of_getElem? (i := 21) rfl)))) (mvT hZ (hw _ (List.mem_of_getElem? (i := 21) rfl))) (mvT hZ (hw _ (List.mem_of_getElem? (i := 20) rfl))) (by decide) (backOf (W := 0) (rm4a l Z a0 hw [] b65 b67 (1 : Int32) (0 : Int64) (1 : Int32) (0 : Int64) T68.heap n0 (Nat.le_trans (Nat.le_trans (Nat.le_trans (Nat.le_trans Z0 E65.1) K66.1) E67.1) K68.1) G68_0 ((G66_1.ext E67).keep K68 (ninS (Nat.ne_of_lt (Nat.lt_of_lt_of_le G66_2.lt (Nat.le_of_eq g67.symm))) nin0)) ((G66_2.ext E67).keep K68 (ninS (Nat.ne_of_lt (Nat.lt_of_lt_of_le G66_2.lt (Nat.le_of_eq g67.symm))) nin0)) G68_1 G68_2) hZ (hw _ (List.mem_of_getElem? (i := 22) rfl)) (hw _ (List.mem_of_getElem? (i := 2) rfl)) (by decide) (by decide)) q70a q70c (g := (mkF m 179 #[.val (.int p1), .val (.long p2), .second, .val (.int p3), .val (.long p4), .second, .val (.int p5), .val (.int (1 : Int32)), .val (.int (1 : Int32)), .val (.long (0 : Int64)), .second, .val (.int (p5 &&& (3 : Int32))), .val (.long z64), .second, .val (.long (0 : Int64)), .second, .val (.ref b65), .val (.ref b67), .val (.int (((p5.toUInt32 >>> ((8 : Int32) &&& 31).toUInt32).toInt32) &&& (3 : Int32))), .val (.int (1 : Int32))] [(.ref b67), (.ref b65)])) rfl (by rw [hml]; rfl) (Steps.refl _) (argsL := [(.ref b67)]) (rest := []) (lenOf pd0_1 rfl) rfl (by show 2 * 0 + _ ≤ _; exact Nat.le_of_eq rfl) (hb hby at_179) (fun _ _ => ⟨rfl, rfl, (by decide : 2 + 0 ≤ _), (by decide : 4 + 0 ≤ _)⟩)
        dsimp only [Pt.U, Pt.locs, Pt.cells, Pt.slots] at X70 l70 y70 z70 st70 hQ70
        subst l70 y70 z70
        obtain ⟨rfl, N70q, e70⟩ := hQ70
        have N70 := Fr.app N68 N70q
        refine goT st70 ?_
        show Go p.tables e below T70 (mkF m 182 #[.val (.int p1), .val (.long p2), .second, .val (.int p3), .val (.long p4), .second, .val (.int p5), .val (.int (1 : Int32)), .val (.int (1 : Int32)), .val (.long (0 : Int64)), .second, .val (.int (p5 &&& (3 : Int32))), .val (.long z64), .second, .val (.long (0 : Int64)), .second, .val (.ref b65), .val (.ref b67), .val (.int (((p5.toUInt32 >>> ((8 : Int32) &&& 31).toUInt32).toInt32) &&& (3 : Int32))), .val (.int (1 : Int32))] [(.int (own_4a (1 : Int32) (0 : Int64) (1 : Int32) (0 : Int64)))]) _
        refine go1 (fun _ => XS.iload X70.here hx rfl (hb hby at_182) rfl) ?_
        show Go p.tables e below T70 (mkF m 184 #[.val (.int p1), .val (.long p2), .second, .val (.int p3), .val (.long p4), .second, .val (.int p5), .val (.int (1 : Int32)), .val (.int (1 : Int32)), .val (.long (0 : Int64)), .second, .val (.int (p5 &&& (3 : Int32))), .val (.long z64), .second, .val (.long (0 : Int64)), .second, .val (.ref b65), .val (.ref b67), .val (.int (((p5.toUInt32 >>> ((8 : Int32) &&& 31).toUInt32).toInt32) &&& (3 : Int32))), .val (.int (1 : Int32))] [(.int (1 : Int32)), (.int (own_4a (1 : Int32) (0 : Int64) (1 : Int32) (0 : Int64)))]) _
        refine go1 (fun _ => XS.icmpNo X70.here hx rfl (hb hby at_184) rfl (teq (show (own_4a (1 : Int32) (0 : Int64) (1 : Int32) (0 : Int64)) = (1 : Int32) from by first | decide | (simp [own_4a, hc69]; done) | (simp [own_4a, eq_comm, hc69]; done))).2) ?_
        show Go p.tables e below T70 (mkF m 187 #[.val (.int p1), .val (.long p2), .second, .val (.int p3), .val (.long p4), .second, .val (.int p5), .val (.int (1 : Int32)), .val (.int (1 : Int32)), .val (.long (0 : Int64)), .second, .val (.int (p5 &&& (3 : Int32))), .val (.long z64), .second, .val (.long (0 : Int64)), .second, .val (.ref b65), .val (.ref b67), .val (.int (((p5.toUInt32 >>> ((8 : Int32) &&& 31).toUInt32).toInt32) &&& (3 : Int32))), .val (.int (1 : Int32))] []) _
        refine go1 (fun _ => XS.aload X70.here hx rfl (hb hby at_187) rfl rfl) ?_
        show Go p.tables e below T70 (mkF m 189 #[.val (.int p1), .val (.long p2), .second, .val (.int p3), .val (.long p4), .second, .val (.int p5), .val (.int (1 : Int32)), .val (.int (1 : Int32)), .val (.long (0 : Int64)), .second, .val (.int (p5 &&& (3 : Int32))), .val (.long z64), .second, .val (.long (0 : Int64)), .second, .val (.ref b65), .val (.ref b67), .val (.int (((p5.toUInt32 >>> ((8 : Int32) &&& 31).toUInt32).toInt32) &&& (3 : Int32))), .val (.int (1 : Int32))] [(.ref b67)]) _
        refine go1 (fun _ => XS.aload X70.here hx rfl (hb hby at_189) rfl rfl) ?_
        show Go p.tables e below T70 (mkF m 191 #[.val (.int p1), .val (.long p2), .second, .val (.int p3), .val (.long p4), .second, .val (.int p5), .val (.int (1 : Int32)), .val (.int (1 : Int32)), .val (.long (0 : Int64)), .second, .val (.int (p5 &&& (3 : Int32))), .val (.long z64), .second, .val (.long (0 : Int64)), .second, .val (.ref b65), .val (.ref b67), .val (.int (((p5.toUInt32 >>> ((8 : Int32) &&& 31).toUInt32).toInt32) &&& (3 : Int32))), .val (.int (1 : Int32))] [(.ref b65), (.ref b67)]) _
        obtain ⟨cq71, kq71, q71a, q71b, q71c⟩ := isOf hZ e70 G68_0
        obtain ⟨_, _, ⟨T71, L71, k71, n71⟩, -, X71, ⟨Lc71, hQ71, l71, y71, z71⟩, st71⟩ := X70.virtualBack hx (y := (⟨"com/example/stubwright/stubwright/idl/UnionType$Label", "equals", "(Ljava/lang/Object;)Z"⟩ : MethodName)) (z := (⟨"com/example/stubwright/stubwright/idl/UnionType$Label", "equals", "(Ljava/lang/Object;)Z"⟩ : MethodName)) hown (mvT hZ (hw _ (List.mem_of_getElem? (i := 18) rfl))) (mvT hZ (hw _ (List.mem_of_getElem? (i := 19) rfl))) (notFace_of_selects (args := #[]) (mvT hZ (hw _ (List.mem_of_getElem? (i := 21) rfl)))) (mvT hZ (hw _ (List.mem_of_getElem? (i := 21) rfl))) (mvT hZ (hw _ (List.mem_of_getElem? (i := 20) rfl))) (by decide) (backOf (W := 0) (rm4a l Z a0 hw [] b67 b65 (1 : Int32) (0 : Int64) (1 : Int32) (0 : Int64) T68.heap n0 (Nat.le_trans (Nat.le_trans (Nat.le_trans (Nat.le_trans Z0 E65.1) K66.1) E67.1) K68.1) ((G66_0.ext E67).keep K68) G68_1 G68_2 ((G66_1.ext E67).keep K68 (ninS (Nat.ne_of_lt (Nat.lt_of_lt_of_le G66_2.lt (Nat.le_of_eq g67.symm))) nin0)) ((G66_2.ext E67).keep K68 (ninS (Nat.ne_of_lt (Nat.lt_of_lt_of_le G66_2.lt (Nat.le_of_eq g67.symm))) nin0))) hZ (hw _ (List.mem_of_getElem? (i := 22) rfl)) (hw _ (List.mem_of_getElem? (i := 2) rfl)) (by decide) (by decide)) q71a q71c (g := (mkF m 191 #[.val (.int p1), .val (.long p2), .second, .val (.int p3), .val (.long p4), .second, .val (.int p5), .val (.int (1 : Int32)), .val (.int (1 : Int32)), .val (.long (0 : Int64)), .second, .val (.int (p5 &&& (3 : Int32))), .val (.long z64), .second, .val (.long (0 : Int64)), .second, .val (.ref b65), .val (.ref b67), .val (.int (((p5.toUInt32 >>> ((8 : Int32) &&& 31).toUInt32).toInt32) &&& (3 : Int32))), .val (.int (1 : Int32))] [(.ref b65), (.ref b67)])) rfl (by rw [hml]; rfl) (Steps.refl _) (argsL := [(.ref b65)]) (rest := []) (lenOf pd0_1 rfl) rfl (by show 2 * 0 + _ ≤ _; exact Nat.le_of_eq rfl) (hb hby at_191) (fun _ _ => ⟨rfl, e70, (by decide : 2 + 0 ≤ _), (by decide : 4 + 0 ≤ _)⟩)
        dsimp only [Pt.U, Pt.locs, Pt.cells, Pt.slots] at X71 l71 y71 z71 st71 hQ71
        subst l71 y71 z71
        obtain ⟨rfl, N71q, e71⟩ := hQ71
        have N71 := Fr.app N70 N71q
        refine goT st71 ?_
        show Go p.tables e below T71 (mkF m 194 #[.val (.int p1), .val (.long p2), .second, .val (.int p3), .val (.long p4), .second, .val (.int p5), .val (.int (1 : Int32)), .val (.int (1 : Int32)), .val (.long (0 : Int64)), .second, .val (.int (p5 &&& (3 : Int32))), .val (.long z64), .second, .val (.long (0 : Int64)), .second, .val (.ref b65), .val (.ref b67), .val (.int (((p5.toUInt32 >>> ((8 : Int32) &&& 31).toUInt32).toInt32) &&& (3 : Int32))), .val (.int (1 : Int32))] [(.int (own_4a (1 : Int32) (0 : Int64) (1 : Int32) (0 : Int64)))]) _
        refine go1 (fun _ => XS.iload X71.here hx rfl (hb hby at_194) rfl) ?_
        show Go p.tables e below T71 (mkF m 196 #[.val (.int p1), .val (.long p2), .second, .val (.int p3), .val (.long p4), .second, .val (.int p5), .val (.int (1 : Int32)), .val (.int (1 : Int32)), .val (.long (0 : Int64)), .second, .val (.int (p5 &&& (3 : Int32))), .val (.long z64), .second, .val (.long (0 : Int64)), .second, .val (.ref b65), .val (.ref b67), .val (.int (((p5.toUInt32 >>> ((8 : Int32) &&& 31).toUInt32).toInt32) &&& (3 : Int32))), .val (.int (1 : Int32))] [(.int (1 : Int32)), (.int (own_4a (1 : Int32) (0 : Int64) (1 : Int32) (0 : Int64)))]) _
        refine go1 (fun _ => XS.icmpNo X71.here hx rfl (hb hby at_196) rfl (teq (show (own_4a (1 : Int32) (0 : Int64) (1 : Int32) (0 : Int64)) = (1 : Int32) from by first | decide | (simp [own_4a, hc69]; done) | (simp [own_4a, eq_comm, hc69]; done))).2) ?_
        show Go p.tables e below T71 (mkF m 199 #[.val (.int p1), .val (.long p2), .second, .val (.int p3), .val (.long p4), .second, .val (.int p5), .val (.int (1 : Int32)), .val (.int (1 : Int32)), .val (.long (0 : Int64)), .second, .val (.int (p5 &&& (3 : Int32))), .val (.long z64), .second, .val (.long (0 : Int64)), .second, .val (.ref b65), .val (.ref b67), .val (.int (((p5.toUInt32 >>> ((8 : Int32) &&& 31).toUInt32).toInt32) &&& (3 : Int32))), .val (.int (1 : Int32))] []) _
        refine go1 (fun _ => XS.iconst X71.here hx rfl (hb hby at_199)) ?_
        show Go p.tables e below T71 (mkF m 200 #[.val (.int p1), .val (.long p2), .second, .val (.int p3), .val (.long p4), .second, .val (.int p5), .val (.int (1 : Int32)), .val (.int (1 : Int32)), .val (.long (0 : Int64)), .second, .val (.int (p5 &&& (3 : Int32))), .val (.long z64), .second, .val (.long (0 : Int64)), .second, .val (.ref b65), .val (.ref b67), .val (.int (((p5.toUInt32 >>> ((8 : Int32) &&& 31).toUInt32).toInt32) &&& (3 : Int32))), .val (.int (1 : Int32))] [(.int (1 : Int32))]) _
        refine go1 (fun _ => XS.goto X71.here hx rfl (pc0 := 200) (pc' := 204) rfl (hb hby at_200) (by decide) (by decide)) ?_
        show Go p.tables e below T71 (mkF m 204 #[.val (.int p1), .val (.long p2), .second, .val (.int p3), .val (.long p4), .second, .val (.int p5), .val (.int (1 : Int32)), .val (.int (1 : Int32)), .val (.long (0 : Int64)), .second, .val (.int (p5 &&& (3 : Int32))), .val (.long z64), .second, .val (.long (0 : Int64)), .second, .val (.ref b65), .val (.ref b67), .val (.int (((p5.toUInt32 >>> ((8 : Int32) &&& 31).toUInt32).toInt32) &&& (3 : Int32))), .val (.int (1 : Int32))] [(.int (1 : Int32))]) _
        refine goR X71 (BodyLoose.notSynchronized Bd) (v := (some (.int (1 : Int32)))) (fun h => by rw [Bd.returns] at h; cases h) (Q0 Z p1 p2 p3 p4 p5 a_cache h0 n0) (fun fs hr => retN X71 hx (t := .boolean) Bd.returns (by simp) (hb hby at_204) hr) (by decide) (by decide) ?_
        show Q0 Z p1 p2 p3 p4 p5 a_cache h0 n0 _ T71.heap _
        rw [e71]
        exact ⟨rfl, N71⟩
      · skip
        refine go1 (fun _ => XS.ifYes X68.here hx rfl (pc0 := 150) (pc' := 205) rfl (hb hby at_150) rfl ((if0 _ _).trans (feq hc69).2) (by decide) (by decide)) ?_
        show Go p.tables e below T68 (mkF m 205 #[.val (.int p1), .val (.long p2), .second, .val (.int p3), .val (.long p4), .second, .val (.int p5), .val (.int (1 : Int32)), .val (.int (1 : Int32)), .val (.long (0 : Int64)), .second, .val (.int (p5 &&& (3 : Int32))), .val (.long z64), .second, .val (.long (0 : Int64)), .second, .val (.ref b65), .val (.ref b67), .val (.int (((p5.toUInt32 >>> ((8 : Int32) &&& 31).toUInt32).toInt32) &&& (3 : Int32))), .unset] []) _
        refine go1 (fun _ => XS.iload X68.here hx rfl (hb hby at_205) rfl) ?_
        show Go p.tables e below T68 (mkF m 207 #[.val (.int p1), .val (.long p2), .second, .val (.int p3), .val (.long p4), .second, .val (.int p5), .val (.int (1 : Int32)), .val (.int (1 : Int32)), .val (.long (0 : Int64)), .second, .val (.int (p5 &&& (3 : Int32))), .val (.long z64), .second, .val (.long (0 : Int64)), .second, .val (.ref b65), .val (.ref b67), .val (.int (((p5.toUInt32 >>> ((8 : Int32) &&& 31).toUInt32).toInt32) &&& (3 : Int32))), .unset] [(.int (((p5.toUInt32 >>> ((8 : Int32) &&& 31).toUInt32).toInt32) &&& (3 : Int32)))]) _
        refine go1 (fun _ => XS.iconst X68.here hx rfl (hb hby at_207)) ?_
        show Go p.tables e below T68 (mkF m 208 #[.val (.int p1), .val (.long p2), .second, .val (.int p3), .val (.long p4), .second, .val (.int p5), .val (.int (1 : Int32)), .val (.int (1 : Int32)), .val (.long (0 : Int64)), .second, .val (.int (p5 &&& (3 : Int32))), .val (.long z64), .second, .val (.long (0 : Int64)), .second, .val (.ref b65), .val (.ref b67), .val (.int (((p5.toUInt32 >>> ((8 : Int32) &&& 31).toUInt32).toInt32) &&& (3 : Int32))), .unset] [(.int (1 : Int32)), (.int (((p5.toUInt32 >>> ((8 : Int32) &&& 31).toUInt32).toInt32) &&& (3 : Int32)))]) _
        by_cases hc72 : (((p5.toUInt32 >>> ((8 : Int32) &&& 31).toUInt32).toInt32) &&& (3 : Int32)) = (1 : Int32)
        · skip
          refine go1 (fun _ => XS.icmpNo X68.here hx rfl (hb hby at_208) rfl (teq hc72).2) ?_
          show Go p.tables e below T68 (mkF m 211 #[.val (.int p1), .val (.long p2), .second, .val (.int p3), .val (.long p4), .second, .val (.int p5), .val (.int (1 : Int32)), .val (.int (1 : Int32)), .val (.long (0 : Int64)), .second, .val (.int (p5 &&& (3 : Int32))), .val (.long z64), .second, .val (.long (0 : Int64)), .second, .val (.ref b65), .val (.ref b67), .val (.int (((p5.toUInt32 >>> ((8 : Int32) &&& 31).toUInt32).toInt32) &&& (3 : Int32))), .unset] []) _
          refine go1 (fun _ => XS.aconstNull X68.here hx rfl (hb hby at_211)) ?_
          show Go p.tables e below T68 (mkF m 212 #[.val (.int p1), .val (.long p2), .second, .val (.int p3), .val (.long p4), .second, .val (.int p5), .val (.int (1 : Int32)), .val (.int (1 : Int32)), .val (.long (0 : Int64)), .second, .val (.int (p5 &&& (3 : Int32))), .val (.long z64), .second, .val (.long (0 : Int64)), .second, .val (.ref b65), .val (.ref b67), .val (.int (((p5.toUInt32 >>> ((8 : Int32) &&& 31).toUInt32).toInt32) &&& (3 : Int32))), .unset] [.null]) _
          refine go1 (fun _ => XS.astore X68.here hx rfl (hb hby at_212) rfl rfl (l' := #[.val (.int p1), .val (.long p2), .second, .val (.int p3), .val (.long p4), .second, .val (.int p5), .val (.int (1 : Int32)), .val (.int (1 : Int32)), .val (.long (0 : Int64)), .second, .val (.int (p5 &&& (3 : Int32))), .val (.long z64), .second, .val (.long (0 : Int64)), .second, .val (.ref b65), .val (.ref b67), .val (.int (((p5.toUInt32 >>> ((8 : Int32) &&& 31).toUInt32).toInt32) &&& (3 : Int32))), .val .null]) rfl) ?_
          show Go p.tables e below T68 (mkF m 214 #[.val (.int p1), .val (.long p2), .second, .val (.int p3), .val (.long p4), .second, .val (.int p5), .val (.int (1 : Int32)), .val (.int (1 : Int32)), .val (.long (0 : Int64)), .second, .val (.int (p5 &&& (3 : Int32))), .val (.long z64), .second, .val (.long (0 : Int64)), .second, .val (.ref b65), .val (.ref b67), .val (.int (((p5.toUInt32 >>> ((8 : Int32) &&& 31).toUInt32).toInt32) &&& (3 : Int32))), .val .null] []) _
          refine go1 (fun _ => XS.aload X68.here hx rfl (hb hby at_214) rfl rfl) ?_
          show Go p.tables e below T68 (mkF m 216 #[.val (.int p1), .val (.long p2), .second, .val (.int p3), .val (.long p4), .second, .val (.int p5), .val (.int (1 : Int32)), .val (.int (1 : Int32)), .val (.long (0 : Int64)), .second, .val (.int (p5 &&& (3 : Int32))), .val (.long z64), .second, .val (.long (0 : Int64)), .second, .val (.ref b65), .val (.ref b67), .val (.int (((p5.toUInt32 >>> ((8 : Int32) &&& 31).toUInt32).toInt32) &&& (3 : Int32))), .val .null] [(.ref b65)]) _
          refine go1 (fun _ => XS.aload X68.here hx rfl (hb hby at_216) rfl rfl) ?_
          show Go p.tables e below T68 (mkF m 218 #[.val (.int p1), .val (.long p2), .second, .val (.int p3), .val (.long p4), .second, .val (.int p5), .val (.int (1 : Int32)), .val (.int (1 : Int32)), .val (.long (0 : Int64)), .second, .val (.int (p5 &&& (3 : Int32))), .val (.long z64), .second, .val (.long (0 : Int64)), .second, .val (.ref b65), .val (.ref b67), .val (.int (((p5.toUInt32 >>> ((8 : Int32) &&& 31).toUInt32).toInt32) &&& (3 : Int32))), .val .null] [.null, (.ref b65)]) _
          obtain ⟨cq73, kq73, q73a, q73b, q73c⟩ := isOf hZ rfl ((G66_0.ext E67).keep K68)
          obtain ⟨_, _, ⟨T73, L73, k73, n73⟩, -, X73, ⟨Lc73, hQ73, l73, y73, z73⟩, st73⟩ := X68.virtualBack hx (y := (⟨"com/example/stubwright/stubwright/idl/UnionType$Label", "equals", "(Ljava/lang/Object;)Z"⟩ : MethodName)) (z := (⟨"com/example/stubwright/stubwright/idl/UnionType$Label", "equals", "(Ljava/lang/Object;)Z"⟩ : MethodName)) hown (mvT hZ (hw _ (List.mem_of_getElem? (i := 18) rfl))) (mvT hZ (hw _ (List.mem_of_getElem? (i := 19) rfl))) (notFace_of_selects (args := #[]) (mvT hZ (hw _ (List.mem_of_getElem? (i := 21) rfl)))) (mvT hZ (hw _ (List.mem_of_getElem? (i := 21) rfl))) (mvT hZ (hw _ (List.mem_of_getElem? (i := 20) rfl))) (by decide) (backOf (W := 0) (rm4b l Z a0 hw [] b65 T68.heap n0 (Nat.le_trans (Nat.le_trans (Nat.le_trans (Nat.le_trans Z0 E65.1) K66.1) E67.1) K68.1) ) hZ (hw _ (List.mem_of_getElem? (i := 22) rfl)) (hw _ (List.mem_of_getElem? (i := 2) rfl)) (by decide) (by decide)) q73a q73c (g := (mkF m 218 #[.val (.int p1), .val (.long p2), .second, .val (.int p3), .val (.long p4), .second, .val (.int p5), .val (.int (1 : Int32)), .val (.int (1 : Int32)), .val (.long (0 : Int64)), .second, .val (.int (p5 &&& (3 : Int32))), .val (.long z64), .second, .val (.long (0 : Int64)), .second, .val (.ref b65), .val (.ref b67), .val (.int (((p5.toUInt32 >>> ((8 : Int32) &&& 31).toUInt32).toInt32) &&& (3 : Int32))), .val .null] [.null, (.ref b65)])) rfl (by rw [hml]; rfl) (Steps.refl _) (argsL := [.null]) (rest := []) (lenOf pd0_1 rfl) rfl (by show 2 * 0 + _ ≤ _; exact Nat.le_of_eq rfl) (hb hby at_218) (fun _ _ => ⟨rfl, rfl, (by decide : 2 + 0 ≤ _), (by decide : 4 + 0 ≤ _)⟩)
          dsimp only [Pt.U, Pt.locs, Pt.cells, Pt.slots] at X73 l73 y73 z73 st73 hQ73
          subst l73 y73 z73
          obtain ⟨rfl, N73q, e73⟩ := hQ73
          have N73 := Fr.app N68 N73q
          refine goT st73 ?_
          show Go p.tables e below T73 (mkF m 221 #[.val (.int p1), .val (.long p2), .second, .val (.int p3), .val (.long p4), .second, .val (.int p5), .val (.int (1 : Int32)), .val (.int (1 : Int32)), .val (.long (0 : Int64)), .second, .val (.int (p5 &&& (3 : Int32))), .val (.long z64), .second, .val (.long (0 : Int64)), .second, .val (.ref b65), .val (.ref b67), .val (.int (((p5.toUInt32 >>> ((8 : Int32) &&& 31).toUInt32).toInt32) &&& (3 : Int32))), .val .null] [(.int (0 : Int32))]) _
          refine go1 (fun _ => XS.ifNo X73.here hx rfl (hb hby at_221) rfl ((if0 _ _).trans (teq (by decide : (0 : Int32) = (0 : Int32))).2)) ?_
          show Go p.tables e below T73 (mkF m 224 #[.val (.int p1), .val (.long p2), .second, .val (.int p3), .val (.long p4), .second, .val (.int p5), .val (.int (1 : Int32)), .val (.int (1 : Int32)), .val (.long (0 : Int64)), .second, .val (.int (p5 &&& (3 : Int32))), .val (.long z64), .second, .val (.long (0 : Int64)), .second, .val (.ref b65), .val (.ref b67), .val (.int (((p5.toUInt32 >>> ((8 : Int32) &&& 31).toUInt32).toInt32) &&& (3 : Int32))), .val .null] []) _
          refine go1 (fun _ => XS.iconst X73.here hx rfl (hb hby at_224)) ?_
          show Go p.tables e below T73 (mkF m 225 #[.val (.int p1), .val (.long p2), .second, .val (.int p3), .val (.long p4), .second, .val (.int p5), .val (.int (1 : Int32)), .val (.int (1 : Int32)), .val (.long (0 : Int64)), .second, .val (.int (p5 &&& (3 : Int32))), .val (.long z64), .second, .val (.long (0 : Int64)), .second, .val (.ref b65), .val (.ref b67), .val (.int (((p5.toUInt32 >>> ((8 : Int32) &&& 31).toUInt32).toInt32) &&& (3 : Int32))), .val .null] [(.int (1 : Int32))]) _
          refine go1 (fun _ => XS.goto X73.here hx rfl (pc0 := 225) (pc' := 229) rfl (hb hby at_225) (by decide) (by decide)) ?_
          show Go p.tables e below T73 (mkF m 229 #[.val (.int p1), .val (.long p2), .second, .val (.int p3), .val (.long p4), .second, .val (.int p5), .val (.int (1 : Int32)), .val (.int (1 : Int32)), .val (.long (0 : Int64)), .second, .val (.int (p5 &&& (3 : Int32))), .val (.long z64), .second, .val (.long (0 : Int64)), .second, .val (.ref b65), .val (.ref b67), .val (.int (((p5.toUInt32 >>> ((8 : Int32) &&& 31).toUInt32).toInt32) &&& (3 : Int32))), .val .null] [(.int (1 : Int32))]) _
          refine goR X73 (BodyLoose.notSynchronized Bd) (v := (some (.int (1 : Int32)))) (fun h => by rw [Bd.returns] at h; cases h) (Q0 Z p1 p2 p3 p4 p5 a_cache h0 n0) (fun fs hr => retN X73 hx (t := .boolean) Bd.returns (by simp) (hb hby at_229) hr) (by decide) (by decide) ?_
          show Q0 Z p1 p2 p3 p4 p5 a_cache h0 n0 _ T73.heap _
          rw [e73]
          exact ⟨rfl, N73⟩
        · skip
          refine go1 (fun _ => XS.icmpYes X68.here hx rfl (pc0 := 208) (pc' := 230) rfl (hb hby at_208) rfl (feq hc72).2 (by decide) (by decide)) ?_
          show Go p.tables e below T68 (mkF m 230 #[.val (.int p1), .val (.long p2), .second, .val (.int p3), .val (.long p4), .second, .val (.int p5), .val (.int (1 : Int32)), .val (.int (1 : Int32)), .val (.long (0 : Int64)), .second, .val (.int (p5 &&& (3 : Int32))), .val (.long z64), .second, .val (.long (0 : Int64)), .second, .val (.ref b65), .val (.ref b67), .val (.int (((p5.toUInt32 >>> ((8 : Int32) &&& 31).toUInt32).toInt32) &&& (3 : Int32))), .unset] []) _
          refine go1 (fun _ => XS.iload X68.here hx rfl (hb hby at_230) rfl) ?_
          show Go p.tables e below T68 (mkF m 232 #[.val (.int p1), .val (.long p2), .second, .val (.int p3), .val (.long p4), .second, .val (.int p5), .val (.int (1 : Int32)), .val (.int (1 : Int32)), .val (.long (0 : Int64)), .second, .val (.int (p5 &&& (3 : Int32))), .val (.long z64), .second, .val (.long (0 : Int64)), .second, .val (.ref b65), .val (.ref b67), .val (.int (((p5.toUInt32 >>> ((8 : Int32) &&& 31).toUInt32).toInt32) &&& (3 : Int32))), .unset] [(.int (((p5.toUInt32 >>> ((8 : Int32) &&& 31).toUInt32).toInt32) &&& (3 : Int32)))]) _
          refine go1 (fun _ => XS.iconst X68.here hx rfl (hb hby at_232)) ?_
          show Go p.tables e below T68 (mkF m 233 #[.val (.int p1), .val (.long p2), .second, .val (.int p3), .val (.long p4), .second, .val (.int p5), .val (.int (1 : Int32)), .val (.int (1 : Int32)), .val (.long (0 : Int64)), .second, .val (.int (p5 &&& (3 : Int32))), .val (.long z64), .second, .val (.long (0 : Int64)), .second, .val (.ref b65), .val (.ref b67), .val (.int (((p5.toUInt32 >>> ((8 : Int32) &&& 31).toUInt32).toInt32) &&& (3 : Int32))), .unset] [(.int (2 : Int32)), (.int (((p5.toUInt32 >>> ((8 : Int32) &&& 31).toUInt32).toInt32) &&& (3 : Int32)))]) _
          by_cases hc74 : (((p5.toUInt32 >>> ((8 : Int32) &&& 31).toUInt32).toInt32) &&& (3 : Int32)) = (2 : Int32)
          · skip
            refine go1 (fun _ => XS.icmpNo X68.here hx rfl (hb hby at_233) rfl (teq hc74).2) ?_
            show Go p.tables e below T68 (mkF m 236 #[.val (.int p1), .val (.long p2), .second, .val (.int p3), .val (.long p4), .second, .val (.int p5), .val (.int (1 : Int32)), .val (.int (1 : Int32)), .val (.long (0 : Int64)), .second, .val (.int (p5 &&& (3 : Int32))), .val (.long z64), .second, .val (.long (0 : Int64)), .second, .val (.ref b65), .val (.ref b67), .val (.int (((p5.toUInt32 >>> ((8 : Int32) &&& 31).toUInt32).toInt32) &&& (3 : Int32))), .unset] []) _
            refine go1 (fun _ => XS.lload X68.here hx rfl (hb hby at_236) rfl) ?_
            show Go p.tables e below T68 (mkF m 238 #[.val (.int p1), .val (.long p2), .second, .val (.int p3), .val (.long p4), .second, .val (.int p5), .val (.int (1 : Int32)), .val (.int (1 : Int32)), .val (.long (0 : Int64)), .second, .val (.int (p5 &&& (3 : Int32))), .val (.long z64), .second, .val (.long (0 : Int64)), .second, .val (.ref b65), .val (.ref b67), .val (.int (((p5.toUInt32 >>> ((8 : Int32) &&& 31).toUInt32).toInt32) &&& (3 : Int32))), .unset] [(.long (0 : Int64))]) _
            obtain ⟨_, _, ⟨T75, L75, k75, n75⟩, -, X75, ⟨Lc75, hQ75, l75, y75, z75⟩, st75⟩ := Jvm.LawKit.callS X68 hx (y := (⟨"java/lang/Long", "valueOf", "(J)Ljava/lang/Long;"⟩ : MethodName)) hown (mvT hZ (hw _ (List.mem_of_getElem? (i := 26) rfl))) (mvT hZ (hw _ (List.mem_of_getElem? (i := 27) rfl))) (mvT hZ (hw _ (List.mem_of_getElem? (i := 28) rfl))) (mvT hZ (hw _ (List.mem_of_getElem? (i := 29) rfl))) (by decide) (backOf (W := 0) (rm5 l Z a0 hw [] (0 : Int64) a_cache T68.heap n0 (Nat.le_trans (Nat.le_trans (Nat.le_trans (Nat.le_trans Z0 E65.1) K66.1) E67.1) K68.1) ((((O0.ext E65).keep K66 (allS g_b65 all0)).ext E67).keep K68 (allS g_b67 all0)) S_cache BX_a_cache) hZ (hw _ (List.mem_of_getElem? (i := 29) rfl)) (hw _ (List.mem_of_getElem? (i := 28) rfl)) (by decide) (by decide)) (g := (mkF m 238 #[.val (.int p1), .val (.long p2), .second, .val (.int p3), .val (.long p4), .second, .val (.int p5), .val (.int (1 : Int32)), .val (.int (1 : Int32)), .val (.long (0 : Int64)), .second, .val (.int (p5 &&& (3 : Int32))), .val (.long z64), .second, .val (.long (0 : Int64)), .second, .val (.ref b65), .val (.ref b67), .val (.int (((p5.toUInt32 >>> ((8 : Int32) &&& 31).toUInt32).toInt32) &&& (3 : Int32))), .unset] [(.long (0 : Int64))])) rfl (by rw [hml]; rfl) (argsL := [(.long (0 : Int64))]) (rest := []) (lenOf pd0_2 rfl) rfl (by show 2 * 0 + _ ≤ _; exact Nat.le_of_eq rfl) (hb hby at_238) (fun _ _ => ⟨rfl, rfl, (by decide : 2 + 1 ≤ _), (by decide : 4 + 1 ≤ _)⟩)
            dsimp only [Pt.U, Pt.locs, Pt.cells, Pt.slots] at X75 l75 y75 z75 st75 hQ75
            subst l75 y75 z75
            obtain ⟨b76, rfl, N75q, K75, G75_0, G75_1⟩ := hQ75
            have N75 := Fr.app N68 N75q
            refine go1 st75 ?_
            show Go p.tables e below T75 (mkF m 241 #[.val (.int p1), .val (.long p2), .second, .val (.int p3), .val (.long p4), .second, .val (.int p5), .val (.int (1 : Int32)), .val (.int (1 : Int32)), .val (.long (0 : Int64)), .second, .val (.int (p5 &&& (3 : Int32))), .val (.long z64), .second, .val (.long (0 : Int64)), .second, .val (.ref b65), .val (.ref b67), .val (.int (((p5.toUInt32 >>> ((8 : Int32) &&& 31).toUInt32).toInt32) &&& (3 : Int32))), .unset] [(.ref b76)]) _
            refine go1 (fun _ => XS.astore X75.here hx rfl (hb hby at_241) rfl rfl (l' := #[.val (.int p1), .val (.long p2), .second, .val (.int p3), .val (.long p4), .second, .val (.int p5), .val (.int (1 : Int32)), .val (.int (1 : Int32)), .val (.long (0 : Int64)), .second, .val (.int (p5 &&& (3 : Int32))), .val (.long z64), .second, .val (.long (0 : Int64)), .second, .val (.ref b65), .val (.ref b67), .val (.int (((p5.toUInt32 >>> ((8 : Int32) &&& 31).toUInt32).toInt32) &&& (3 : Int32))), .val (.ref b76)]) rfl) ?_
            show Go p.tables e below T75 (mkF m 243 #[.val (.int p1), .val (.long p2), .second, .val (.int p3), .val (.long p4), .second, .val (.int p5), .val (.int (1 : Int32)), .val (.int (1 : Int32)), .val (.long (0 : Int64)), .second, .val (.int (p5 &&& (3 : Int32))), .val (.long z64), .second, .val (.long (0 : Int64)), .second, .val (.ref b65), .val (.ref b67), .val (.int (((p5.toUInt32 >>> ((8 : Int32) &&& 31).toUInt32).toInt32) &&& (3 : Int32))), .val (.ref b76)] []) _
            refine go1 (fun _ => XS.aload X75.here hx rfl (hb hby at_243) rfl rfl) ?_
            show Go p.tables e below T75 (mkF m 245 #[.val (.int p1), .val (.long p2), .second, .val (.int p3), .val (.long p4), .second, .val (.int p5), .val (.int (1 : Int32)), .val (.int (1 : Int32)), .val (.long (0 : Int64)), .second, .val (.int (p5 &&& (3 : Int32))), .val (.long z64), .second, .val (.long (0 : Int64)), .second, .val (.ref b65), .val (.ref b67), .val (.int (((p5.toUInt32 >>> ((8 : Int32) &&& 31).toUInt32).toInt32) &&& (3 : Int32))), .val (.ref b76)] [(.ref b65)]) _
            refine go1 (fun _ => XS.aload X75.here hx rfl (hb hby at_245) rfl rfl) ?_
            show Go p.tables e below T75 (mkF m 247 #[.val (.int p1), .val (.long p2), .second, .val (.int p3), .val (.long p4), .second, .val (.int p5), .val (.int (1 : Int32)), .val (.int (1 : Int32)), .val (.long (0 : Int64)), .second, .val (.int (p5 &&& (3 : Int32))), .val (.long z64), .second, .val (.long (0 : Int64)), .second, .val (.ref b65), .val (.ref b67), .val (.int (((p5.toUInt32 >>> ((8 : Int32) &&& 31).toUInt32).toInt32) &&& (3 : Int32))), .val (.ref b76)] [(.ref b76), (.ref b65)]) _
            obtain ⟨cq77, kq77, q77a, q77b, q77c⟩ := isOf hZ rfl (((G66_0.ext E67).keep K68).keep K75)
            obtain ⟨_, _, ⟨T77, L77, k77, n77⟩, -, X77, ⟨Lc77, hQ77, l77, y77, z77⟩, st77⟩ := X75.virtualBack hx (y := (⟨"com/example/stubwright/stubwright/idl/UnionType$Label", "equals", "(Ljava/lang/Object;)Z"⟩ : MethodName)) (z := (⟨"com/example/stubwright/stubwright/idl/UnionType$Label", "equals", "(Ljava/lang/Object;)Z"⟩ : MethodName)) hown (mvT hZ (hw _ (List.mem_of_getElem? (i := 18) rfl))) (mvT hZ (hw _ (List.mem_of_getElem? (i := 19) rfl))) (notFace_of_selects (args := #[]) (mvT hZ (hw _ (List.mem_of_getElem? (i := 21) rfl)))) (mvT hZ (hw _ (List.mem_of_getElem? (i := 21) rfl))) (mvT hZ (hw _ (List.mem_of_getElem? (i := 20) rfl))) (by decide) (backOf (W := 0) (rm4c l Z a0 hw [] b65 b76 T75.heap n0 (Nat.le_trans (Nat.le_trans (Nat.le_trans (Nat.le_trans (Nat.le_trans Z0 E65.1) K66.1) E67.1) K68.1) K75.1) G75_0) hZ (hw _ (List.mem_of_getElem? (i := 22) rfl)) (hw _ (List.mem_of_getElem? (i := 2) rfl)) (by decide) (by decide)) q77a q77c (g := (mkF m 247 #[.val (.int p1), .val (.long p2), .second, .val (.int p3), .val (.long p4), .second, .val (.int p5), .val (.int (1 : Int32)), .val (.int (1 : Int32)), .val (.long (0 : Int64)), .second, .val (.int (p5 &&& (3 : Int32))), .val (.long z64), .second, .val (.long (0 : Int64)), .second, .val (.ref b65), .val (.ref b67), .val (.int (((p5.toUInt32 >>> ((8 : Int32) &&& 31).toUInt32).toInt32) &&& (3 : Int32))), .val (.ref b76)] [(.ref b76), (.ref b65)])) rfl (by rw [hml]; rfl) (Steps.refl _) (argsL := [(.ref b76)]) (rest := []) (lenOf pd0_1 rfl) rfl (by show 2 * 0 + _ ≤ _; exact Nat.le_of_eq rfl) (hb hby at_247) (fun _ _ => ⟨rfl, rfl, (by decide : 3 + 0 ≤ _), (by decide : 5 + 0 ≤ _)⟩)
            dsimp only [Pt.U, Pt.locs, Pt.cells, Pt.slots] at X77 l77 y77 z77 st77 hQ77
            subst l77 y77 z77
            obtain ⟨rfl, N77q, e77⟩ := hQ77
            have N77 := Fr.app N75 N77q
            refine goT st77 ?_
            show Go p.tables e below T77 (mkF m 250 #[.val (.int p1), .val (.long p2), .second, .val (.int p3), .val (.long p4), .second, .val (.int p5), .val (.int (1 : Int32)), .val (.int (1 : Int32)), .val (.long (0 : Int64)), .second, .val (.int (p5 &&& (3 : Int32))), .val (.long z64), .second, .val (.long (0 : Int64)), .second, .val (.ref b65), .val (.ref b67), .val (.int (((p5.toUInt32 >>> ((8 : Int32) &&& 31).toUInt32).toInt32) &&& (3 : Int32))), .val (.ref b76)] [(.int (0 : Int32))]) _
            refine go1 (fun _ => XS.ifNo X77.here hx rfl (hb hby at_250) rfl ((if0 _ _).trans (teq (by decide : (0 : Int32) = (0 : Int32))).2)) ?_
            show Go p.tables e below T77 (mkF m 253 #[.val (.int p1), .val (.long p2), .second, .val (.int p3), .val (.long p4), .second, .val (.int p5), .val (.int (1 : Int32)), .val (.int (1 : Int32)), .val (.long (0 : Int64)), .second, .val (.int (p5 &&& (3 : Int32))), .val (.long z64), .second, .val (.long (0 : Int64)), .second, .val (.ref b65), .val (.ref b67), .val (.int (((p5.toUInt32 >>> ((8 : Int32) &&& 31).toUInt32).toInt32) &&& (3 : Int32))), .val (.ref b76)] []) _
            refine go1 (fun _ => XS.iconst X77.here hx rfl (hb hby at_253)) ?_
            show Go p.tables e below T77 (mkF m 254 #[.val (.int p1), .val (.long p2), .second, .val (.int p3), .val (.long p4), .second, .val (.int p5), .val (.int (1 : Int32)), .val (.int (1 : Int32)), .val (.long (0 : Int64)), .second, .val (.int (p5 &&& (3 : Int32))), .val (.long z64), .second, .val (.long (0 : Int64)), .second, .val (.ref b65), .val (.ref b67), .val (.int (((p5.toUInt32 >>> ((8 : Int32) &&& 31).toUInt32).toInt32) &&& (3 : Int32))), .val (.ref b76)] [(.int (1 : Int32))]) _
            refine go1 (fun _ => XS.goto X77.here hx rfl (pc0 := 254) (pc' := 258) rfl (hb hby at_254) (by decide) (by decide)) ?_
            show Go p.tables e below T77 (mkF m 258 #[.val (.int p1), .val (.long p2), .second, .val (.int p3), .val (.long p4), .second, .val (.int p5), .val (.int (1 : Int32)), .val (.int (1 : Int32)), .val (.long (0 : Int64)), .second, .val (.int (p5 &&& (3 : Int32))), .val (.long z64), .second, .val (.long (0 : Int64)), .second, .val (.ref b65), .val (.ref b67), .val (.int (((p5.toUInt32 >>> ((8 : Int32) &&& 31).toUInt32).toInt32) &&& (3 : Int32))), .val (.ref b76)] [(.int (1 : Int32))]) _
            refine goR X77 (BodyLoose.notSynchronized Bd) (v := (some (.int (1 : Int32)))) (fun h => by rw [Bd.returns] at h; cases h) (Q0 Z p1 p2 p3 p4 p5 a_cache h0 n0) (fun fs hr => retN X77 hx (t := .boolean) Bd.returns (by simp) (hb hby at_258) hr) (by decide) (by decide) ?_
            show Q0 Z p1 p2 p3 p4 p5 a_cache h0 n0 _ T77.heap _
            rw [e77]
            exact ⟨rfl, N77⟩
          · skip
            refine go1 (fun _ => XS.icmpYes X68.here hx rfl (pc0 := 233) (pc' := 259) rfl (hb hby at_233) rfl (feq hc74).2 (by decide) (by decide)) ?_
            show Go p.tables e below T68 (mkF m 259 #[.val (.int p1), .val (.long p2), .second, .val (.int p3), .val (.long p4), .second, .val (.int p5), .val (.int (1 : Int32)), .val (.int (1 : Int32)), .val (.long (0 : Int64)), .second, .val (.int (p5 &&& (3 : Int32))), .val (.long z64), .second, .val (.long (0 : Int64)), .second, .val (.ref b65), .val (.ref b67), .val (.int (((p5.toUInt32 >>> ((8 : Int32) &&& 31).toUInt32).toInt32) &&& (3 : Int32))), .unset] []) _
            refine go1 (fun _ => XS.aload X68.here hx rfl (hb hby at_259) rfl rfl) ?_
            show Go p.tables e below T68 (mkF m 261 #[.val (.int p1), .val (.long p2), .second, .val (.int p3), .val (.long p4), .second, .val (.int p5), .val (.int (1 : Int32)), .val (.int (1 : Int32)), .val (.long (0 : Int64)), .second, .val (.int (p5 &&& (3 : Int32))), .val (.long z64), .second, .val (.long (0 : Int64)), .second, .val (.ref b65), .val (.ref b67), .val (.int (((p5.toUInt32 >>> ((8 : Int32) &&& 31).toUInt32).toInt32) &&& (3 : Int32))), .unset] [(.ref b65)]) _
            refine go1 (fun _ => XS.astore X68.here hx rfl (hb hby at_261) rfl rfl (l' := #[.val (.int p1), .val (.long p2), .second, .val (.int p3), .val (.long p4), .second, .val (.int p5), .val (.int (1 : Int32)), .val (.int (1 : Int32)), .val (.long (0 : Int64)), .second, .val (.int (p5 &&& (3 : Int32))), .val (.long z64), .second, .val (.long (0 : Int64)), .second, .val (.ref b65), .val (.ref b67), .val (.int (((p5.toUInt32 >>> ((8 : Int32) &&& 31).toUInt32).toInt32) &&& (3 : Int32))), .val (.ref b65)]) rfl) ?_
            show Go p.tables e below T68 (mkF m 263 #[.val (.int p1), .val (.long p2), .second, .val (.int p3), .val (.long p4), .second, .val (.int p5), .val (.int (1 : Int32)), .val (.int (1 : Int32)), .val (.long (0 : Int64)), .second, .val (.int (p5 &&& (3 : Int32))), .val (.long z64), .second, .val (.long (0 : Int64)), .second, .val (.ref b65), .val (.ref b67), .val (.int (((p5.toUInt32 >>> ((8 : Int32) &&& 31).toUInt32).toInt32) &&& (3 : Int32))), .val (.ref b65)] []) _
            refine go1 (fun _ => XS.aload X68.here hx rfl (hb hby at_263) rfl rfl) ?_
            show Go p.tables e below T68 (mkF m 265 #[.val (.int p1), .val (.long p2), .second, .val (.int p3), .val (.long p4), .second, .val (.int p5), .val (.int (1 : Int32)), .val (.int (1 : Int32)), .val (.long (0 : Int64)), .second, .val (.int (p5 &&& (3 : Int32))), .val (.long z64), .second, .val (.long (0 : Int64)), .second, .val (.ref b65), .val (.ref b67), .val (.int (((p5.toUInt32 >>> ((8 : Int32) &&& 31).toUInt32).toInt32) &&& (3 : Int32))), .val (.ref b65)] [(.ref b65)]) _
            refine go1 (fun _ => XS.aload X68.here hx rfl (hb hby at_265) rfl rfl) ?_
            show Go p.tables e below T68 (mkF m 267 #[.val (.int p1), .val (.long p2), .second, .val (.int p3), .val (.long p4), .second, .val (.int p5), .val (.int (1 : Int32)), .val (.int (1 : Int32)), .val (.long (0 : Int64)), .second, .val (.int (p5 &&& (3 : Int32))), .val (.long z64), .second, .val (.long (0 : Int64)), .second, .val (.ref b65), .val (.ref b67), .val (.int (((p5.toUInt32 >>> ((8 : Int32) &&& 31).toUInt32).toInt32) &&& (3 : Int32))), .val (.ref b65)] [(.ref b65), (.ref b65)]) _
            obtain ⟨cq78, kq78, q78a, q78b, q78c⟩ := isOf hZ rfl ((G66_0.ext E67).keep K68)
            obtain ⟨_, _, ⟨T78, L78, k78, n78⟩, -, X78, ⟨Lc78, hQ78, l78, y78, z78⟩, st78⟩ := X68.virtualBack hx (y := (⟨"com/example/stubwright/stubwright/idl/UnionType$Label", "equals", "(Ljava/lang/Object;)Z"⟩ : MethodName)) (z := (⟨"com/example/stubwright/stubwright/idl/UnionType$Label", "equals", "(Ljava/lang/Object;)Z"⟩ : MethodName)) hown (mvT hZ (hw _ (List.mem_of_getElem? (i := 18) rfl))) (mvT hZ (hw _ (List.mem_of_getElem? (i := 19) rfl))) (notFace_of_selects (args := #[]) (mvT hZ (hw _ (List.mem_of_getElem? (i := 21) rfl)))) (mvT hZ (hw _ (List.mem_of_getElem? (i := 21) rfl))) (mvT hZ (hw _ (List.mem_of_getElem? (i := 20) rfl))) (by decide) (backOf (W := 0) (rm4a l Z a0 hw [] b65 b65 (1 : Int32) (0 : Int64) (1 : Int32) (0 : Int64) T68.heap n0 (Nat.le_trans (Nat.le_trans (Nat.le_trans (Nat.le_trans Z0 E65.1) K66.1) E67.1) K68.1) ((G66_0.ext E67).keep K68) ((G66_1.ext E67).keep K68 (ninS (Nat.ne_of_lt (Nat.lt_of_lt_of_le G66_2.lt (Nat.le_of_eq g67.symm))) nin0)) ((G66_2.ext E67).keep K68 (ninS (Nat.ne_of_lt (Nat.lt_of_lt_of_le G66_2.lt (Nat.le_of_eq g67.symm))) nin0)) ((G66_1.ext E67).keep K68 (ninS (Nat.ne_of_lt (Nat.lt_of_lt_of_le G66_2.lt (Nat.le_of_eq g67.symm))) nin0)) ((G66_2.ext E67).keep K68 (ninS (Nat.ne_of_lt (Nat.lt_of_lt_of_le G66_2.lt (Nat.le_of_eq g67.symm))) nin0))) hZ (hw _ (List.mem_of_getElem? (i := 22) rfl)) (hw _ (List.mem_of_getElem? (i := 2) rfl)) (by decide) (by decide)) q78a q78c (g := (mkF m 267 #[.val (.int p1), .val (.long p2), .second, .val (.int p3), .val (.long p4), .second, .val (.int p5), .val (.int (1 : Int32)), .val (.int (1 : Int32)), .val (.long (0 : Int64)), .second, .val (.int (p5 &&& (3 : Int32))), .val (.long z64), .second, .val (.long (0 : Int64)), .second, .val (.ref b65), .val (.ref b67), .val (.int (((p5.toUInt32 >>> ((8 : Int32) &&& 31).toUInt32).toInt32) &&& (3 : Int32))), .val (.ref b65)] [(.ref b65), (.ref b65)])) rfl (by rw [hml]; rfl) (Steps.refl _) (argsL := [(.ref b65)]) (rest := []) (lenOf pd0_1 rfl) rfl (by show 2 * 0 + _ ≤ _; exact Nat.le_of_eq rfl) (hb hby at_267) (fun _ _ => ⟨rfl, rfl, (by decide : 2 + 0 ≤ _), (by decide : 4 + 0 ≤ _)⟩)
            dsimp only [Pt.U, Pt.locs, Pt.cells, Pt.slots] at X78 l78 y78 z78 st78 hQ78
            subst l78 y78 z78
            obtain ⟨rfl, N78q, e78⟩ := hQ78
            have N78 := Fr.app N68 N78q
            refine goT st78 ?_
            show Go p.tables e below T78 (mkF m 270 #[.val (.int p1), .val (.long p2), .second, .val (.int p3), .val (.long p4), .second, .val (.int p5), .val (.int (1 : Int32)), .val (.int (1 : Int32)), .val (.long (0 : Int64)), .second, .val (.int (p5 &&& (3 : Int32))), .val (.long z64), .second, .val (.long (0 : Int64)), .second, .val (.ref b65), .val (.ref b67), .val (.int (((p5.toUInt32 >>> ((8 : Int32) &&& 31).toUInt32).toInt32) &&& (3 : Int32))), .val (.ref b65)] [(.int (own_4a (1 : Int32) (0 : Int64) (1 : Int32) (0 : Int64)))]) _
            refine goR X78 (BodyLoose.notSynchronized Bd) (v := (some (.int (nar .boolean (own_4a (1 : Int32) (0 : Int64) (1 : Int32) (0 : Int64)))))) (fun h => by rw [Bd.returns] at h; cases h) (Q0 Z p1 p2 p3 p4 p5 a_cache h0 n0) (fun fs hr => retN X78 hx (t := .boolean) Bd.returns (by simp) (hb hby at_270) hr) (by decide) (by decide) ?_
            show Q0 Z p1 p2 p3 p4 p5 a_cache h0 n0 _ T78.heap _
            rw [e78]
            exact ⟨(by simp [own_4a, nar]), N78⟩
set_option maxRecDepth 65536 in
set_option maxHeartbeats 40000000 in
theorem comes_1 {Post : Tables → Env → Array Value → State → Outcome → State → Prop} (hpost : ∀ tb e args s v u, (limb_1_1.after args s (.returned v) u = true ∧ limb_1_2.after args s (.returned v) u = true ∧ True) → FrameEnd s (.returned v) u (Jvm.fieldLocs frame_1_writes args s ++ Jvm.arrayLocs frame_1_arrays args s ++ Jvm.staticLocs frame_1_statics s) 16 128 → Post tb e args s (.returned v) u) :
    ArmFor flags0 classFile x code maxLocals ret World_1 tables_1 room_1 Calls_1 rest_1 Pre_1 Post := by
  intro l hfl _ _ p e ha hc hk s m args below hf hA hF happ hP
  obtain ⟨hcalls, hrest, hpre⟩ := hP
  obtain ⟨-, -, -, hnamed, -, -, -, hat⟩ := (Spec.applies_iff hf).mp happ
  obtain ⟨hg, hn⟩ := and_e (Cond.before_iff.mp (show (Jvm.Cond.and given_1 narrow_1).before args s = true from hpre))
  obtain ⟨gc, q0⟩ := and_e hg
  obtain ⟨ga0, q1⟩ := and_e q0
  obtain ⟨ga1, q2⟩ := and_e q1
  obtain ⟨ga2, q3⟩ := and_e q2
  obtain ⟨ga3, q4⟩ := and_e q3
  have ga4 := q4
  obtain ⟨w0, w1, w2, w3, w4, rfl⟩ : ∃ w0 w1 w2 w3 w4 : Value, args = #[w0, w1, w2, w3, w4] := by
    have hs : args.size = 5 := by simpa [Cond.value, given_1] using gc
    obtain ⟨L⟩ := args
    match L, hs with
    | [w0, w1, w2, w3, w4], _ => exact ⟨w0, w1, w2, w3, w4, rfl⟩
  have hw := fun d (hd : d ∈ tables_1) => atoms_spec (ws := Jvm.Cond.code x code maxLocals ret :: tables_1) hat d (List.mem_cons_of_mem _ hd)
  have hfit : Fit s := fun {y c} hc i hi => by
    obtain ⟨ha, rfl⟩ := Array.getElem?_eq_some_iff.mp hc
    have q := List.all_eq_true.mp ((Array.all_eq_true_iff_forall_mem.mp hF) _ (Array.getElem_mem ha)) i (List.mem_range.mpr hi)
    simpa [Array.getElem?_eq_getElem hi] using q
  obtain ⟨hsets, hown0⟩ := atoms_of _ (rest_1_c_eq ▸ (show rest_1_c.before _ s = true from hrest))
  obtain ⟨i0, ei0⟩ := is_v ga0
  obtain rfl : w0 = (.int i0) := Option.some.inj ei0
  obtain ⟨i1, ei1⟩ := isL_v ga1
  obtain rfl : w1 = (.long i1) := Option.some.inj ei1
  obtain ⟨i2, ei2⟩ := is_v ga2
  obtain rfl : w2 = (.int i2) := Option.some.inj ei2
  obtain ⟨i3, ei3⟩ := isL_v ga3
  obtain rfl : w3 = (.long i3) := Option.some.inj ei3
  obtain ⟨i4, ei4⟩ := is_v ga4
  obtain rfl : w4 = (.int i4) := Option.some.inj ei4
  obtain ⟨a_cache, ev_a_cache⟩ := exa_v (Cond.before_iff.mp (hsets _ (List.mem_of_getElem? (i := 3) rfl)))
  have S_a_cache := Sta.start ev_a_cache (Or.inl (hsets _ (List.mem_of_getElem? (i := 1) rfl)))
  have ES_a_cache := Exa.start ev_a_cache (Cond.before_iff.mp (hsets _ (List.mem_of_getElem? (i := 3) rfl)))
  have BX_a_cache : ∃ cB : Cell, Bxs s a_cache cB "java/lang/Long" "J" (256 : Int32) (fun j => .long (j - (128 : Int32)).toInt64) := by
    obtain ⟨cB, ArB⟩ := Arr.start ev_a_cache (Cond.before_iff.mp (hsets _ (List.mem_of_getElem? (i := 2) rfl)))
    have q := lenS ev_a_cache ArB (eqv_i (Term.int_eval (256 : Int32)) (Cond.before_iff.mp (hsets _ (List.mem_of_getElem? (i := 4) rfl))))
    refine ⟨cB, Bxs.start (fun idx => ?_) ArB q.1 q.2.1 (by decide) (Cond.before_iff.mp (hsets _ (List.mem_of_getElem? (i := 5) rfl))) (fun X j hj hv => ?_)⟩
    · have := ev_a_cache; simpa [Term.eval] using this
    · exact eqv_l (i2l_at (show (Term.sub (.index 0) (.int (128 : Int32))).eval _ s none [j.toNatClampNeg] s = some (.int (j - (128 : Int32))) from Term.sub_int (idx_at hj) (Term.int_eval (128 : Int32)))) hv
  obtain ⟨n, o, h1, h2, h3, _, L, rfl, ⟨rfl, N⟩, hq⟩ := rm0 l s _ hw tables_1 i0 i1 i2 i3 i4 a_cache s.heap s.heap.size (Nat.le_refl _) (Old.start s) S_a_cache ES_a_cache BX_a_cache p e ha hc hk s m _ below hf ((Spec.applies_iff_loose hf).mp happ).1 ⟨rfl, State.Warmed39.refl s, rfl⟩ trivial
  refine ⟨n, _, h1, h2, h3, hpost _ _ _ _ _ _ ⟨Cond.after_iff.mpr rfl, Cond.after_iff.mpr (eq_i res_at (Term.int_eval (1)) rfl), trivial⟩ ⟨hq.1, hq.2.1, (hq.2.2.sift fun y hy => Or.inr (N y hy)).mono (by decide) (by decide)⟩⟩
theorem main_1_1 : Claimed_1_1 := comes_1 fun _ _ _ _ _ _ h hF => ⟨h.1, hF⟩
theorem main_1_2 : Claimed_1_2 := comes_1 fun _ _ _ _ _ _ h hF => ⟨h.2.1, hF⟩
end Jvm.Pilot.@@N@@
namespace Jvm.Pilot.@@N@@
open Jvm Jvm.ClassFile Sem Op Lib Jvm.Free Jvm.Stand Jvm.Pilot.@@N@@.Jvm.D
/-! MADE BY PROGRAM (witnessworld.py) out of the Statement's table words and the real class files: 17 classes; the members and pool entries that the words name. The judged class is class 1, her method 1. -/
namespace start1
open Jvm.ClassFile
def u (s : String) : CpInfo := .utf8 (stringToUtf16 s)
/-- a pool by its gaps: so many unusable entries, then the entry; so many at the end -/
def gap : Nat → List CpInfo → List CpInfo
  | 0, r => r
  | n + 1, r => .unusable :: gap n r
def poolList (es : List (Nat × CpInfo)) (last : Nat) : List CpInfo := es.foldr (fun e r => gap e.1 (e.2 :: r)) (gap last [])
def pool (es : List (Nat × CpInfo)) (last : Nat) : Array CpInfo := ⟨poolList es last⟩
def fileOf (pool : Array CpInfo) (this : Nat) (attrs : Array Attribute := #[]) (ms : Array MethodInfo := #[]) (fl : Nat := 33) (sup : Nat := 0) (ifs : Array Nat := #[]) (fds : Array FieldInfo := #[]) : ClassFile where
  minorVersion := 0
  majorVersion := 65
  constantPool := pool
  accessFlags := fl
  thisClass := this
  superClass := sup
  interfaces := ifs
  fields := fds
  methods := ms
  attributes := attrs
def plain (name : String) (sup : Option ClassId) : Class where
  name := name
  kind := .ordinary
  loader := none
  accessFlags := 33
  super := sup
  interfaces := #[]
  cf := none
  fields := #[]
  methods := #[]
  instanceTypes := #[]
  staticTypes := #[]
  resolved := #[]
  callSites := []
  init := .initialized
  statics := none
  mirror := none

def pool0 : Array CpInfo := pool [(5, u "<init>"), (0, u "()V"), (1, .class_ 10), (1, u "java/lang/Object")] 113

def k0c0 : Code := { maxStack := 0, maxLocals := 1, code := object_method_1_code, exceptionTable := #[], attributes := #[] }
def k0m0 : Method := { name := "<init>", desc := "()V", sig := { parameters := [], returnType := none }, accessFlags := 1, code := some k0c0 }
/-- java/lang/Object -/
def k0 : Class := { plain "java/lang/Object" none with
  accessFlags := 33
  interfaces := #[]
  cf := some (fileOf pool0 8 #[] #[{ accessFlags := 1, nameIndex := 5, descriptorIndex := 6, attributes := #[] }] 33 0 #[] #[])
  fields := #[]
  methods := #[k0m0]
  instanceTypes := #[]
  staticTypes := #[]
  resolved := Array.replicate 124 none
  statics := none }

def pool1 : Array CpInfo := pool [(2, .class_ 4), (1, u "java/lang/Object"), (0, u "<init>"), (0, u "()V"), (0, .long 18446744073709551615), (1, .class_ 10), (0, u "com/example/stubwright/stubwright/idl/UnionType$Label"), (0, .methodref 9 12), (0, .nameAndType 5 13), (0, u "(ZJ)V"), (0, .methodref 9 15), (0, .nameAndType 16 17), (0, u "equals"), (0, u "(Ljava/lang/Object;)Z"), (0, .methodref 19 20), (0, .class_ 21), (0, .nameAndType 22 23), (0, u "java/lang/Long"), (0, u "valueOf"), (0, u "(J)Ljava/lang/Long;"), (0, .class_ 25), (0, u "com/example/stubwright/stubwright/idl/LabelEqualsPinLaw"), (2, u "law"), (0, u "(IJIJI)Z")] 7

def k1m0 : Method := { name := "<init>", desc := "()V", sig := { parameters := [], returnType := none }, accessFlags := 1, code := none }
def k1c1 : Code := { maxStack := 6, maxLocals := 20, code := code, exceptionTable := #[], attributes := #[] }
def k1m1 : Method := { name := "law", desc := "(IJIJI)Z", sig := { parameters := [.int, .long, .int, .long, .int], returnType := some .boolean }, accessFlags := 9, code := some k1c1 }
/-- com/example/stubwright/stubwright/idl/LabelEqualsPinLaw -/
def k1 : Class := { plain "com/example/stubwright/stubwright/idl/LabelEqualsPinLaw" (some 0) with
  accessFlags := 49
  interfaces := #[]
  cf := some (fileOf pool1 24 #[] #[{ accessFlags := 1, nameIndex := 5, descriptorIndex := 6, attributes := #[] }, { accessFlags := 9, nameIndex := 28, descriptorIndex := 29, attributes := #[] }] 49 2 #[] #[])
  fields := #[]
  methods := #[k1m0, k1m1]
  instanceTypes := #[]
  staticTypes := #[]
  resolved := Array.replicate 37 none
  statics := none }

def pool2 : Array CpInfo := pool [(1, .methodref 2 3), (0, .class_ 4), (0, .nameAndType 5 6), (0, u "java/lang/Object"), (0, u "<init>"), (0, u "()V"), (0, .class_ 8), (0, u "java/lang/Record")] 13

def k2c0 : Code := { maxStack := 1, maxLocals := 1, code := jdk_30_method_1_code, exceptionTable := #[], attributes := #[] }
def k2m0 : Method := { name := "<init>", desc := "()V", sig := { parameters := [], returnType := none }, accessFlags := 4, code := some k2c0 }
/-- java/lang/Record -/
def k2 : Class := { plain "java/lang/Record" (some 0) with
  accessFlags := 1057
  interfaces := #[]
  cf := some (fileOf pool2 7 #[] #[{ accessFlags := 4, nameIndex := 5, descriptorIndex := 6, attributes := #[] }] 1057 2 #[] #[])
  fields := #[]
  methods := #[k2m0]
  instanceTypes := #[]
  staticTypes := #[]
  resolved := Array.replicate 22 none
  statics := none }

def pool3 : Array CpInfo := pool [(1, .methodref 2 3), (0, .class_ 4), (0, .nameAndType 5 6), (0, u "java/lang/Record"), (0, u "<init>"), (0, u "()V"), (7, .fieldref 15 16), (0, .class_ 17), (0, .nameAndType 18 19), (0, u "com/example/stubwright/stubwright/idl/UnionType$Label"), (0, u "isDefault"), (0, u "Z"), (0, .fieldref 15 21), (0, .nameAndType 22 23), (0, u "value"), (0, u "J"), (2, u "(ZJ)V"), (17, u "DEFAULT"), (0, u "Lcom/example/stubwright/stubwright/idl/UnionType$Label;"), (6, u "equals"), (0, u "(Ljava/lang/Object;)Z"), (8, .class_ 63), (0, u "com/example/stubwright/stubwright/idl/UnionType")] 20

def k3c0 : Code := { maxStack := 4, maxLocals := 4, code := prog_41_method_1_code, exceptionTable := #[], attributes := #[] }
def k3m0 : Method := { name := "<init>", desc := "(ZJ)V", sig := { parameters := [.boolean, .long], returnType := none }, accessFlags := 1, code := some k3c0 }
def k3c1 : Code := { maxStack := 4, maxLocals := 3, code := prog_41_method_3_code, exceptionTable := #[], attributes := #[] }
def k3m1 : Method := { name := "equals", desc := "(Ljava/lang/Object;)Z", sig := { parameters := [(.object "java/lang/Object")], returnType := some .boolean }, accessFlags := 1, code := some k3c1 }
/-- com/example/stubwright/stubwright/idl/UnionType$Label -/
def k3 : Class := { plain "com/example/stubwright/stubwright/idl/UnionType$Label" (some 2) with
  accessFlags := 49
  interfaces := #[]
  cf := some (fileOf pool3 15 #[.nestHost 62] #[{ accessFlags := 1, nameIndex := 5, descriptorIndex := 26, attributes := #[] }, { accessFlags := 1, nameIndex := 52, descriptorIndex := 53, attributes := #[] }] 49 2 #[] #[{ accessFlags := 18, nameIndex := 18, descriptorIndex := 19, attributes := #[] }, { accessFlags := 18, nameIndex := 22, descriptorIndex := 23, attributes := #[] }, { accessFlags := 25, nameIndex := 44, descriptorIndex := 45, attributes := #[] }])
  fields := #[{ name := "isDefault", type := .boolean, accessFlags := 18, slot := 0, constantValue := 0 }, { name := "value", type := .long, accessFlags := 18, slot := 1, constantValue := 0 }, { name := "DEFAULT", type := (.object "com/example/stubwright/stubwright/idl/UnionType$Label"), accessFlags := 25, slot := 0, constantValue := 0 }]
  methods := #[k3m0, k3m1]
  instanceTypes := #[.boolean, .long]
  staticTypes := #[(.object "com/example/stubwright/stubwright/idl/UnionType$Label")]
  resolved := Array.replicate 84 none
  statics := none }

def pool4 : Array CpInfo := pool [(1, .class_ 2), (0, u "java/io/Serializable"), (0, .class_ 4), (0, u "java/lang/Object")] 2

/-- java/io/Serializable -/
def k4 : Class := { plain "java/io/Serializable" (some 0) with
  accessFlags := 1537
  interfaces := #[]
  cf := some (fileOf pool4 1 #[] #[] 1537 3 #[] #[])
  fields := #[]
  methods := #[]
  instanceTypes := #[]
  staticTypes := #[]
  resolved := Array.replicate 7 none
  statics := none }

def pool5 : Array CpInfo := pool [(1, .methodref 2 3), (0, .class_ 4), (0, .nameAndType 5 6), (0, u "java/lang/Object"), (0, u "<init>"), (0, u "()V"), (1, .class_ 10), (1, u "java/lang/Number"), (2, .class_ 14), (0, u "java/io/Serializable"), (0, u "serialVersionUID"), (0, u "J")] 20

def k5c0 : Code := { maxStack := 1, maxLocals := 1, code := jdk_18_method_1_code, exceptionTable := #[], attributes := #[] }
def k5m0 : Method := { name := "<init>", desc := "()V", sig := { parameters := [], returnType := none }, accessFlags := 1, code := some k5c0 }
/-- java/lang/Number -/
def k5 : Class := { plain "java/lang/Number" (some 0) with
  accessFlags := 1057
  interfaces := #[4]
  cf := some (fileOf pool5 8 #[] #[{ accessFlags := 1, nameIndex := 5, descriptorIndex := 6, attributes := #[] }] 1057 2 #[13] #[{ accessFlags := 26, nameIndex := 15, descriptorIndex := 16, attributes := #[] }])
  fields := #[{ name := "serialVersionUID", type := .long, accessFlags := 26, slot := 0, constantValue := 0 }]
  methods := #[k5m0]
  instanceTypes := #[]
  staticTypes := #[.long]
  resolved := Array.replicate 37 none
  statics := none }

def pool6 : Array CpInfo := pool [(1, .class_ 2), (0, u "java/lang/Comparable"), (0, .class_ 4), (0, u "java/lang/Object")] 7

/-- java/lang/Comparable -/
def k6 : Class := { plain "java/lang/Comparable" (some 0) with
  accessFlags := 1537
  interfaces := #[]
  cf := some (fileOf pool6 1 #[] #[] 1537 3 #[] #[])
  fields := #[]
  methods := #[]
  instanceTypes := #[]
  staticTypes := #[]
  resolved := Array.replicate 12 none
  statics := none }

def pool7 : Array CpInfo := pool [(1, .class_ 2), (0, u "java/lang/constant/Constable"), (0, .class_ 4), (0, u "java/lang/Object")] 6

/-- java/lang/constant/Constable -/
def k7 : Class := { plain "java/lang/constant/Constable" (some 0) with
  accessFlags := 1537
  interfaces := #[]
  cf := some (fileOf pool7 1 #[] #[] 1537 3 #[] #[])
  fields := #[]
  methods := #[]
  instanceTypes := #[]
  staticTypes := #[]
  resolved := Array.replicate 11 none
  statics := none }

def pool8 : Array CpInfo := pool [(1, .class_ 2), (0, u "java/lang/constant/ConstantDesc"), (0, .class_ 4), (0, u "java/lang/Object")] 32

/-- java/lang/constant/ConstantDesc -/
def k8 : Class := { plain "java/lang/constant/ConstantDesc" (some 0) with
  accessFlags := 1537
  interfaces := #[]
  cf := some (fileOf pool8 1 #[] #[] 1537 3 #[] #[])
  fields := #[]
  methods := #[]
  instanceTypes := #[]
  staticTypes := #[]
  resolved := Array.replicate 37 none
  statics := none }

def pool9 : Array CpInfo := pool [(1, .class_ 2), (0, u "java/lang/Long"), (55, .nameAndType 59 60), (0, u "<init>"), (0, u "()V"), (24, u "valueOf"), (143, u "(J)Ljava/lang/Long;"), (0, .long 18446744073709551488), (1, .long 127), (1, .fieldref 235 236), (0, .class_ 237), (0, .nameAndType 238 239), (0, u "java/lang/Long$LongCache"), (0, u "cache"), (0, u "[Ljava/lang/Long;"), (0, .methodref 1 241), (0, .nameAndType 59 242), (0, u "(J)V"), (27, .methodref 271 58), (0, .class_ 272), (0, u "java/lang/Number"), (0, .fieldref 1 274), (0, .nameAndType 275 276), (0, u "value"), (0, u "J"), (84, u "TYPE"), (0, u "Ljava/lang/Class;"), (0, .class_ 364), (0, u "java/lang/Comparable"), (0, .class_ 366), (0, u "java/lang/constant/Constable"), (0, .class_ 368), (0, u "java/lang/constant/ConstantDesc"), (0, u "MIN_VALUE"), (1, u "MAX_VALUE"), (4, u "SIZE"), (0, u "I"), (1, u "BYTES"), (1, u "serialVersionUID")] 142

def k9c0 : Code := { maxStack := 4, maxLocals := 3, code := jdk_35_method_24_code, exceptionTable := #[], attributes := #[] }
def k9m0 : Method := { name := "valueOf", desc := "(J)Ljava/lang/Long;", sig := { parameters := [.long], returnType := some (.object "java/lang/Long") }, accessFlags := 9, code := some k9c0 }
def k9c1 : Code := { maxStack := 3, maxLocals := 3, code := jdk_35_method_26_code, exceptionTable := #[], attributes := #[] }
def k9m1 : Method := { name := "<init>", desc := "(J)V", sig := { parameters := [.long], returnType := none }, accessFlags := 1, code := some k9c1 }
/-- java/lang/Long -/
def k9 : Class := { plain "java/lang/Long" (some 5) with
  accessFlags := 49
  interfaces := #[6, 7, 8]
  cf := some (fileOf pool9 1 #[.nestMembers #[235]] #[{ accessFlags := 9, nameIndex := 85, descriptorIndex := 229, attributes := #[] }, { accessFlags := 1, nameIndex := 59, descriptorIndex := 242, attributes := #[] }] 49 271 #[363, 365, 367] #[{ accessFlags := 25, nameIndex := 369, descriptorIndex := 276, attributes := #[] }, { accessFlags := 25, nameIndex := 371, descriptorIndex := 276, attributes := #[] }, { accessFlags := 25, nameIndex := 361, descriptorIndex := 362, attributes := #[] }, { accessFlags := 18, nameIndex := 275, descriptorIndex := 276, attributes := #[] }, { accessFlags := 25, nameIndex := 376, descriptorIndex := 377, attributes := #[] }, { accessFlags := 25, nameIndex := 379, descriptorIndex := 377, attributes := #[] }, { accessFlags := 26, nameIndex := 381, descriptorIndex := 276, attributes := #[] }])
  fields := #[{ name := "MIN_VALUE", type := .long, accessFlags := 25, slot := 0, constantValue := 0 }, { name := "MAX_VALUE", type := .long, accessFlags := 25, slot := 1, constantValue := 0 }, { name := "TYPE", type := (.object "java/lang/Class"), accessFlags := 25, slot := 2, constantValue := 0 }, { name := "value", type := .long, accessFlags := 18, slot := 0, constantValue := 0 }, { name := "SIZE", type := .int, accessFlags := 25, slot := 3, constantValue := 0 }, { name := "BYTES", type := .int, accessFlags := 25, slot := 4, constantValue := 0 }, { name := "serialVersionUID", type := .long, accessFlags := 26, slot := 5, constantValue := 0 }]
  methods := #[k9m0, k9m1]
  instanceTypes := #[.long]
  staticTypes := #[.long, .long, (.object "java/lang/Class"), .int, .int, .long]
  resolved := Array.replicate 524 none
  statics := none }

def pool10 : Array CpInfo := pool [(2, .class_ 4), (1, u "java/lang/Object"), (0, u "<init>"), (0, u "()V"), (0, .class_ 8), (0, u "java/lang/Long"), (7, .class_ 18), (1, u "java/lang/Long$LongCache"), (0, u "$assertionsDisabled"), (0, u "Z"), (8, u "archivedCache"), (0, u "[Ljava/lang/Long;"), (7, u "cache")] 24

def k10m0 : Method := { name := "<init>", desc := "()V", sig := { parameters := [], returnType := none }, accessFlags := 2, code := none }
/-- java/lang/Long$LongCache -/
def k10 : Class := { plain "java/lang/Long$LongCache" (some 0) with
  accessFlags := 48
  interfaces := #[]
  cf := some (fileOf pool10 16 #[.nestHost 7] #[{ accessFlags := 2, nameIndex := 5, descriptorIndex := 6, attributes := #[] }] 48 2 #[] #[{ accessFlags := 24, nameIndex := 38, descriptorIndex := 30, attributes := #[] }, { accessFlags := 8, nameIndex := 29, descriptorIndex := 30, attributes := #[] }, { accessFlags := 4120, nameIndex := 19, descriptorIndex := 20, attributes := #[] }])
  fields := #[{ name := "cache", type := (.array (.object "java/lang/Long")), accessFlags := 24, slot := 0, constantValue := 0 }, { name := "archivedCache", type := (.array (.object "java/lang/Long")), accessFlags := 8, slot := 1, constantValue := 0 }, { name := "$assertionsDisabled", type := .boolean, accessFlags := 4120, slot := 2, constantValue := 0 }]
  methods := #[k10m0]
  instanceTypes := #[]
  staticTypes := #[(.array (.object "java/lang/Long")), (.array (.object "java/lang/Long")), .boolean]
  resolved := Array.replicate 63 none
  statics := some 0 }

def pool11 : Array CpInfo := pool [(1, u "java/lang/Cloneable"), (0, .class_ 1), (0, u "java/lang/Object"), (0, .class_ 3)] 3

/-- java/lang/Cloneable -/
def k11 : Class := { plain "java/lang/Cloneable" (some 0) with
  accessFlags := 1537
  interfaces := #[]
  cf := some (fileOf pool11 2 #[] #[] 1537 4 #[] #[])
  fields := #[]
  methods := #[]
  instanceTypes := #[]
  staticTypes := #[]
  resolved := Array.replicate 8 none
  statics := none }

/-- the primitive byte -/
def k12 : Class := { plain "byte" none with kind := .primitive 'B', accessFlags := 0x411 }
/-- [B -/
def k13 : Class := { plain "[B" (some 0) with kind := .array 12 .byte, interfaces := #[11, 4], accessFlags := 1041 }

/-- the primitive int -/
def k14 : Class := { plain "int" none with kind := .primitive 'I', accessFlags := 0x411 }
/-- [I -/
def k15 : Class := { plain "[I" (some 0) with kind := .array 14 .int, interfaces := #[11, 4], accessFlags := 1041 }

/-- [Ljava/lang/Long; -/
def k16 : Class := { plain "[Ljava/lang/Long;" (some 0) with kind := .array 9 (.object "java/lang/Long"), interfaces := #[11, 4], accessFlags := 1041 }

def heap : Heap := #[{ cls := 10, slots := #[.ref 1, .null, .int 0], vm := .statics 10 },
  { cls := 16, slots := #[.ref 2, .ref 3, .ref 4, .ref 5, .ref 6, .ref 7, .ref 8, .ref 9, .ref 10, .ref 11, .ref 12, .ref 13, .ref 14, .ref 15, .ref 16, .ref 17, .ref 18, .ref 19, .ref 20, .ref 21, .ref 22, .ref 23, .ref 24, .ref 25, .ref 26, .ref 27, .ref 28, .ref 29, .ref 30, .ref 31, .ref 32, .ref 33, .ref 34, .ref 35, .ref 36, .ref 37, .ref 38, .ref 39, .ref 40, .ref 41, .ref 42, .ref 43, .ref 44, .ref 45, .ref 46, .ref 47, .ref 48, .ref 49, .ref 50, .ref 51, .ref 52, .ref 53, .ref 54, .ref 55, .ref 56, .ref 57, .ref 58, .ref 59, .ref 60, .ref 61, .ref 62, .ref 63, .ref 64, .ref 65, .ref 66, .ref 67, .ref 68, .ref 69, .ref 70, .ref 71, .ref 72, .ref 73, .ref 74, .ref 75, .ref 76, .ref 77, .ref 78, .ref 79, .ref 80, .ref 81, .ref 82, .ref 83, .ref 84, .ref 85, .ref 86, .ref 87, .ref 88, .ref 89, .ref 90, .ref 91, .ref 92, .ref 93, .ref 94, .ref 95, .ref 96, .ref 97, .ref 98, .ref 99, .ref 100, .ref 101, .ref 102, .ref 103, .ref 104, .ref 105, .ref 106, .ref 107, .ref 108, .ref 109, .ref 110, .ref 111, .ref 112, .ref 113, .ref 114, .ref 115, .ref 116, .ref 117, .ref 118, .ref 119, .ref 120, .ref 121, .ref 122, .ref 123, .ref 124, .ref 125, .ref 126, .ref 127, .ref 128, .ref 129, .ref 130, .ref 131, .ref 132, .ref 133, .ref 134, .ref 135, .ref 136, .ref 137, .ref 138, .ref 139, .ref 140, .ref 141, .ref 142, .ref 143, .ref 144, .ref 145, .ref 146, .ref 147, .ref 148, .ref 149, .ref 150, .ref 151, .ref 152, .ref 153, .ref 154, .ref 155, .ref 156, .ref 157, .ref 158, .ref 159, .ref 160, .ref 161, .ref 162, .ref 163, .ref 164, .ref 165, .ref 166, .ref 167, .ref 168, .ref 169, .ref 170, .ref 171, .ref 172, .ref 173, .ref 174, .ref 175, .ref 176, .ref 177, .ref 178, .ref 179, .ref 180, .ref 181, .ref 182, .ref 183, .ref 184, .ref 185, .ref 186, .ref 187, .ref 188, .ref 189, .ref 190, .ref 191, .ref 192, .ref 193, .ref 194, .ref 195, .ref 196, .ref 197, .ref 198, .ref 199, .ref 200, .ref 201, .ref 202, .ref 203, .ref 204, .ref 205, .ref 206, .ref 207, .ref 208, .ref 209, .ref 210, .ref 211, .ref 212, .ref 213, .ref 214, .ref 215, .ref 216, .ref 217, .ref 218, .ref 219, .ref 220, .ref 221, .ref 222, .ref 223, .ref 224, .ref 225, .ref 226, .ref 227, .ref 228, .ref 229, .ref 230, .ref 231, .ref 232, .ref 233, .ref 234, .ref 235, .ref 236, .ref 237, .ref 238, .ref 239, .ref 240, .ref 241, .ref 242, .ref 243, .ref 244, .ref 245, .ref 246, .ref 247, .ref 248, .ref 249, .ref 250, .ref 251, .ref 252, .ref 253, .ref 254, .ref 255, .ref 256, .ref 257], vm := .none },
  { cls := 9, slots := #[.long (-128)], vm := .none },
  { cls := 9, slots := #[.long (-127)], vm := .none },
  { cls := 9, slots := #[.long (-126)], vm := .none },
  { cls := 9, slots := #[.long (-125)], vm := .none },
  { cls := 9, slots := #[.long (-124)], vm := .none },
  { cls := 9, slots := #[.long (-123)], vm := .none },
  { cls := 9, slots := #[.long (-122)], vm := .none },
  { cls := 9, slots := #[.long (-121)], vm := .none },
  { cls := 9, slots := #[.long (-120)], vm := .none },
  { cls := 9, slots := #[.long (-119)], vm := .none },
  { cls := 9, slots := #[.long (-118)], vm := .none },
  { cls := 9, slots := #[.long (-117)], vm := .none },
  { cls := 9, slots := #[.long (-116)], vm := .none },
  { cls := 9, slots := #[.long (-115)], vm := .none },
  { cls := 9, slots := #[.long (-114)], vm := .none },
  { cls := 9, slots := #[.long (-113)], vm := .none },
  { cls := 9, slots := #[.long (-112)], vm := .none },
  { cls := 9, slots := #[.long (-111)], vm := .none },
  { cls := 9, slots := #[.long (-110)], vm := .none },
  { cls := 9, slots := #[.long (-109)], vm := .none },
  { cls := 9, slots := #[.long (-108)], vm := .none },
  { cls := 9, slots := #[.long (-107)], vm := .none },
  { cls := 9, slots := #[.long (-106)], vm := .none },
  { cls := 9, slots := #[.long (-105)], vm := .none },
  { cls := 9, slots := #[.long (-104)], vm := .none },
  { cls := 9, slots := #[.long (-103)], vm := .none },
  { cls := 9, slots := #[.long (-102)], vm := .none },
  { cls := 9, slots := #[.long (-101)], vm := .none },
  { cls := 9, slots := #[.long (-100)], vm := .none },
  { cls := 9, slots := #[.long (-99)], vm := .none },
  { cls := 9, slots := #[.long (-98)], vm := .none },
  { cls := 9, slots := #[.long (-97)], vm := .none },
  { cls := 9, slots := #[.long (-96)], vm := .none },
  { cls := 9, slots := #[.long (-95)], vm := .none },
  { cls := 9, slots := #[.long (-94)], vm := .none },
  { cls := 9, slots := #[.long (-93)], vm := .none },
  { cls := 9, slots := #[.long (-92)], vm := .none },
  { cls := 9, slots := #[.long (-91)], vm := .none },
  { cls := 9, slots := #[.long (-90)], vm := .none },
  { cls := 9, slots := #[.long (-89)], vm := .none },
  { cls := 9, slots := #[.long (-88)], vm := .none },
  { cls := 9, slots := #[.long (-87)], vm := .none },
  { cls := 9, slots := #[.long (-86)], vm := .none },
  { cls := 9, slots := #[.long (-85)], vm := .none },
  { cls := 9, slots := #[.long (-84)], vm := .none },
  { cls := 9, slots := #[.long (-83)], vm := .none },
  { cls := 9, slots := #[.long (-82)], vm := .none },
  { cls := 9, slots := #[.long (-81)], vm := .none },
  { cls := 9, slots := #[.long (-80)], vm := .none },
  { cls := 9, slots := #[.long (-79)], vm := .none },
  { cls := 9, slots := #[.long (-78)], vm := .none },
  { cls := 9, slots := #[.long (-77)], vm := .none },
  { cls := 9, slots := #[.long (-76)], vm := .none },
  { cls := 9, slots := #[.long (-75)], vm := .none },
  { cls := 9, slots := #[.long (-74)], vm := .none },
  { cls := 9, slots := #[.long (-73)], vm := .none },
  { cls := 9, slots := #[.long (-72)], vm := .none },
  { cls := 9, slots := #[.long (-71)], vm := .none },
  { cls := 9, slots := #[.long (-70)], vm := .none },
  { cls := 9, slots := #[.long (-69)], vm := .none },
  { cls := 9, slots := #[.long (-68)], vm := .none },
  { cls := 9, slots := #[.long (-67)], vm := .none },
  { cls := 9, slots := #[.long (-66)], vm := .none },
  { cls := 9, slots := #[.long (-65)], vm := .none },
  { cls := 9, slots := #[.long (-64)], vm := .none },
  { cls := 9, slots := #[.long (-63)], vm := .none },
  { cls := 9, slots := #[.long (-62)], vm := .none },
  { cls := 9, slots := #[.long (-61)], vm := .none },
  { cls := 9, slots := #[.long (-60)], vm := .none },
  { cls := 9, slots := #[.long (-59)], vm := .none },
  { cls := 9, slots := #[.long (-58)], vm := .none },
  { cls := 9, slots := #[.long (-57)], vm := .none },
  { cls := 9, slots := #[.long (-56)], vm := .none },
  { cls := 9, slots := #[.long (-55)], vm := .none },
  { cls := 9, slots := #[.long (-54)], vm := .none },
  { cls := 9, slots := #[.long (-53)], vm := .none },
  { cls := 9, slots := #[.long (-52)], vm := .none },
  { cls := 9, slots := #[.long (-51)], vm := .none },
  { cls := 9, slots := #[.long (-50)], vm := .none },
  { cls := 9, slots := #[.long (-49)], vm := .none },
  { cls := 9, slots := #[.long (-48)], vm := .none },
  { cls := 9, slots := #[.long (-47)], vm := .none },
  { cls := 9, slots := #[.long (-46)], vm := .none },
  { cls := 9, slots := #[.long (-45)], vm := .none },
  { cls := 9, slots := #[.long (-44)], vm := .none },
  { cls := 9, slots := #[.long (-43)], vm := .none },
  { cls := 9, slots := #[.long (-42)], vm := .none },
  { cls := 9, slots := #[.long (-41)], vm := .none },
  { cls := 9, slots := #[.long (-40)], vm := .none },
  { cls := 9, slots := #[.long (-39)], vm := .none },
  { cls := 9, slots := #[.long (-38)], vm := .none },
  { cls := 9, slots := #[.long (-37)], vm := .none },
  { cls := 9, slots := #[.long (-36)], vm := .none },
  { cls := 9, slots := #[.long (-35)], vm := .none },
  { cls := 9, slots := #[.long (-34)], vm := .none },
  { cls := 9, slots := #[.long (-33)], vm := .none },
  { cls := 9, slots := #[.long (-32)], vm := .none },
  { cls := 9, slots := #[.long (-31)], vm := .none },
  { cls := 9, slots := #[.long (-30)], vm := .none },
  { cls := 9, slots := #[.long (-29)], vm := .none },
  { cls := 9, slots := #[.long (-28)], vm := .none },
  { cls := 9, slots := #[.long (-27)], vm := .none },
  { cls := 9, slots := #[.long (-26)], vm := .none },
  { cls := 9, slots := #[.long (-25)], vm := .none },
  { cls := 9, slots := #[.long (-24)], vm := .none },
  { cls := 9, slots := #[.long (-23)], vm := .none },
  { cls := 9, slots := #[.long (-22)], vm := .none },
  { cls := 9, slots := #[.long (-21)], vm := .none },
  { cls := 9, slots := #[.long (-20)], vm := .none },
  { cls := 9, slots := #[.long (-19)], vm := .none },
  { cls := 9, slots := #[.long (-18)], vm := .none },
  { cls := 9, slots := #[.long (-17)], vm := .none },
  { cls := 9, slots := #[.long (-16)], vm := .none },
  { cls := 9, slots := #[.long (-15)], vm := .none },
  { cls := 9, slots := #[.long (-14)], vm := .none },
  { cls := 9, slots := #[.long (-13)], vm := .none },
  { cls := 9, slots := #[.long (-12)], vm := .none },
  { cls := 9, slots := #[.long (-11)], vm := .none },
  { cls := 9, slots := #[.long (-10)], vm := .none },
  { cls := 9, slots := #[.long (-9)], vm := .none },
  { cls := 9, slots := #[.long (-8)], vm := .none },
  { cls := 9, slots := #[.long (-7)], vm := .none },
  { cls := 9, slots := #[.long (-6)], vm := .none },
  { cls := 9, slots := #[.long (-5)], vm := .none },
  { cls := 9, slots := #[.long (-4)], vm := .none },
  { cls := 9, slots := #[.long (-3)], vm := .none },
  { cls := 9, slots := #[.long (-2)], vm := .none },
  { cls := 9, slots := #[.long (-1)], vm := .none },
  { cls := 9, slots := #[.long (0)], vm := .none },
  { cls := 9, slots := #[.long (1)], vm := .none },
  { cls := 9, slots := #[.long (2)], vm := .none },
  { cls := 9, slots := #[.long (3)], vm := .none },
  { cls := 9, slots := #[.long (4)], vm := .none },
  { cls := 9, slots := #[.long (5)], vm := .none },
  { cls := 9, slots := #[.long (6)], vm := .none },
  { cls := 9, slots := #[.long (7)], vm := .none },
  { cls := 9, slots := #[.long (8)], vm := .none },
  { cls := 9, slots := #[.long (9)], vm := .none },
  { cls := 9, slots := #[.long (10)], vm := .none },
  { cls := 9, slots := #[.long (11)], vm := .none },
  { cls := 9, slots := #[.long (12)], vm := .none },
  { cls := 9, slots := #[.long (13)], vm := .none },
  { cls := 9, slots := #[.long (14)], vm := .none },
  { cls := 9, slots := #[.long (15)], vm := .none },
  { cls := 9, slots := #[.long (16)], vm := .none },
  { cls := 9, slots := #[.long (17)], vm := .none },
  { cls := 9, slots := #[.long (18)], vm := .none },
  { cls := 9, slots := #[.long (19)], vm := .none },
  { cls := 9, slots := #[.long (20)], vm := .none },
  { cls := 9, slots := #[.long (21)], vm := .none },
  { cls := 9, slots := #[.long (22)], vm := .none },
  { cls := 9, slots := #[.long (23)], vm := .none },
  { cls := 9, slots := #[.long (24)], vm := .none },
  { cls := 9, slots := #[.long (25)], vm := .none },
  { cls := 9, slots := #[.long (26)], vm := .none },
  { cls := 9, slots := #[.long (27)], vm := .none },
  { cls := 9, slots := #[.long (28)], vm := .none },
  { cls := 9, slots := #[.long (29)], vm := .none },
  { cls := 9, slots := #[.long (30)], vm := .none },
  { cls := 9, slots := #[.long (31)], vm := .none },
  { cls := 9, slots := #[.long (32)], vm := .none },
  { cls := 9, slots := #[.long (33)], vm := .none },
  { cls := 9, slots := #[.long (34)], vm := .none },
  { cls := 9, slots := #[.long (35)], vm := .none },
  { cls := 9, slots := #[.long (36)], vm := .none },
  { cls := 9, slots := #[.long (37)], vm := .none },
  { cls := 9, slots := #[.long (38)], vm := .none },
  { cls := 9, slots := #[.long (39)], vm := .none },
  { cls := 9, slots := #[.long (40)], vm := .none },
  { cls := 9, slots := #[.long (41)], vm := .none },
  { cls := 9, slots := #[.long (42)], vm := .none },
  { cls := 9, slots := #[.long (43)], vm := .none },
  { cls := 9, slots := #[.long (44)], vm := .none },
  { cls := 9, slots := #[.long (45)], vm := .none },
  { cls := 9, slots := #[.long (46)], vm := .none },
  { cls := 9, slots := #[.long (47)], vm := .none },
  { cls := 9, slots := #[.long (48)], vm := .none },
  { cls := 9, slots := #[.long (49)], vm := .none },
  { cls := 9, slots := #[.long (50)], vm := .none },
  { cls := 9, slots := #[.long (51)], vm := .none },
  { cls := 9, slots := #[.long (52)], vm := .none },
  { cls := 9, slots := #[.long (53)], vm := .none },
  { cls := 9, slots := #[.long (54)], vm := .none },
  { cls := 9, slots := #[.long (55)], vm := .none },
  { cls := 9, slots := #[.long (56)], vm := .none },
  { cls := 9, slots := #[.long (57)], vm := .none },
  { cls := 9, slots := #[.long (58)], vm := .none },
  { cls := 9, slots := #[.long (59)], vm := .none },
  { cls := 9, slots := #[.long (60)], vm := .none },
  { cls := 9, slots := #[.long (61)], vm := .none },
  { cls := 9, slots := #[.long (62)], vm := .none },
  { cls := 9, slots := #[.long (63)], vm := .none },
  { cls := 9, slots := #[.long (64)], vm := .none },
  { cls := 9, slots := #[.long (65)], vm := .none },
  { cls := 9, slots := #[.long (66)], vm := .none },
  { cls := 9, slots := #[.long (67)], vm := .none },
  { cls := 9, slots := #[.long (68)], vm := .none },
  { cls := 9, slots := #[.long (69)], vm := .none },
  { cls := 9, slots := #[.long (70)], vm := .none },
  { cls := 9, slots := #[.long (71)], vm := .none },
  { cls := 9, slots := #[.long (72)], vm := .none },
  { cls := 9, slots := #[.long (73)], vm := .none },
  { cls := 9, slots := #[.long (74)], vm := .none },
  { cls := 9, slots := #[.long (75)], vm := .none },
  { cls := 9, slots := #[.long (76)], vm := .none },
  { cls := 9, slots := #[.long (77)], vm := .none },
  { cls := 9, slots := #[.long (78)], vm := .none },
  { cls := 9, slots := #[.long (79)], vm := .none },
  { cls := 9, slots := #[.long (80)], vm := .none },
  { cls := 9, slots := #[.long (81)], vm := .none },
  { cls := 9, slots := #[.long (82)], vm := .none },
  { cls := 9, slots := #[.long (83)], vm := .none },
  { cls := 9, slots := #[.long (84)], vm := .none },
  { cls := 9, slots := #[.long (85)], vm := .none },
  { cls := 9, slots := #[.long (86)], vm := .none },
  { cls := 9, slots := #[.long (87)], vm := .none },
  { cls := 9, slots := #[.long (88)], vm := .none },
  { cls := 9, slots := #[.long (89)], vm := .none },
  { cls := 9, slots := #[.long (90)], vm := .none },
  { cls := 9, slots := #[.long (91)], vm := .none },
  { cls := 9, slots := #[.long (92)], vm := .none },
  { cls := 9, slots := #[.long (93)], vm := .none },
  { cls := 9, slots := #[.long (94)], vm := .none },
  { cls := 9, slots := #[.long (95)], vm := .none },
  { cls := 9, slots := #[.long (96)], vm := .none },
  { cls := 9, slots := #[.long (97)], vm := .none },
  { cls := 9, slots := #[.long (98)], vm := .none },
  { cls := 9, slots := #[.long (99)], vm := .none },
  { cls := 9, slots := #[.long (100)], vm := .none },
  { cls := 9, slots := #[.long (101)], vm := .none },
  { cls := 9, slots := #[.long (102)], vm := .none },
  { cls := 9, slots := #[.long (103)], vm := .none },
  { cls := 9, slots := #[.long (104)], vm := .none },
  { cls := 9, slots := #[.long (105)], vm := .none },
  { cls := 9, slots := #[.long (106)], vm := .none },
  { cls := 9, slots := #[.long (107)], vm := .none },
  { cls := 9, slots := #[.long (108)], vm := .none },
  { cls := 9, slots := #[.long (109)], vm := .none },
  { cls := 9, slots := #[.long (110)], vm := .none },
  { cls := 9, slots := #[.long (111)], vm := .none },
  { cls := 9, slots := #[.long (112)], vm := .none },
  { cls := 9, slots := #[.long (113)], vm := .none },
  { cls := 9, slots := #[.long (114)], vm := .none },
  { cls := 9, slots := #[.long (115)], vm := .none },
  { cls := 9, slots := #[.long (116)], vm := .none },
  { cls := 9, slots := #[.long (117)], vm := .none },
  { cls := 9, slots := #[.long (118)], vm := .none },
  { cls := 9, slots := #[.long (119)], vm := .none },
  { cls := 9, slots := #[.long (120)], vm := .none },
  { cls := 9, slots := #[.long (121)], vm := .none },
  { cls := 9, slots := #[.long (122)], vm := .none },
  { cls := 9, slots := #[.long (123)], vm := .none },
  { cls := 9, slots := #[.long (124)], vm := .none },
  { cls := 9, slots := #[.long (125)], vm := .none },
  { cls := 9, slots := #[.long (126)], vm := .none },
  { cls := 9, slots := #[.long (127)], vm := .none }]
def classes : Array Class := #[k0, k1, k2, k3, k4, k5, k6, k7, k8, k9, k10, k11, k12, k13, k14, k15, k16]
def interned : List (Array UInt16 × Addr) := []
def slotsUsed : Nat := 515
def theMethod : MethodId := ⟨1, 1⟩
def args0 : Array Value := #[.int 5, .long 3, .int 1, .long 4, .int 0]
def aboutOver (below : List Frame) : State where
  vm := { classes := classes, interned := interned.toArray }
  heap := heap
  slotsUsed := slotsUsed
  threads := #[{ frames := .invoking theMethod args0 :: below }]
def below0 : List Frame := [.native { method := ⟨0, 0⟩, args := #[] }]
def about1 : State := aboutOver below0
def p0 : Program := .bare "" "" ""
def e0 : Env := launch0.env 0 0 0
theorem w_frames : about1.frames = Frame.invoking theMethod args0 :: below0 := rfl
set_option maxRecDepth 65536 in
theorem w_args : argsFit about1.vm theMethod args0 = true := by decide +kernel
set_option maxRecDepth 65536 in
theorem w_heap : heapFits about1 = true := by decide +kernel
set_option maxRecDepth 65536 in
theorem w_runnable : about1.curStatus? = some .runnable := by decide +kernel
set_option maxRecDepth 65536 in
theorem w_alone : about1.alone = true := by decide +kernel
set_option maxRecDepth 65536 in
theorem w_named : about1.methodNamed? x = some theMethod := by decide +kernel
set_option maxRecDepth 65536 in
theorem w_hears : about1.hears theMethod below0 = true := by decide +kernel
set_option maxRecDepth 65536 in
theorem w_ripe : about1.ripe theMethod args0 below0 = true := by decide +kernel
theorem w_running : about1.status = .running := rfl
set_option maxRecDepth 65536 in
theorem w_room : about1.hasRoom e0.platform room_1 = true :=
  launch0.hasRoom_least _ room_1 (by decide +kernel) (by decide +kernel) (by decide +kernel) (by decide +kernel) (by decide +kernel) (by decide +kernel)
theorem allAtoms_all (ts : List Jvm.Cond) (a : Array Jvm.Value) (st : Jvm.State) : (allAtoms ts).before a st = ts.all (fun c => c.before a st) := by
  induction ts with
  | nil => rfl
  | cons c t ih =>
    show (Jvm.Cond.and c (allAtoms t)).before a st = _
    rw [Jvm.Cond.before_and, ih, List.all_cons]
def words1 : List Jvm.Cond := Jvm.Cond.code x code maxLocals ret :: tables_1
/-- a 'code' word, met by the world's own term for the bytes: nothing is compared byte by byte -/
theorem code_word {y : MethodName} {bytes : ByteArray} {mx : Nat} {rt : Option FieldType} {a : Array Value} {s : State} {m : MethodId} {meth : Method} {c : Code} (h1 : s.methodNamed? y = some m) (h2 : s.vm.method? m = some meth) (h3 : meth.code = some c) (h4 : c.code = bytes)
    (h5 : (c.maxLocals == mx && c.exceptionTable.isEmpty && decide (c.maxStack ≤ mostOperands) && decide (meth.sig.returnType = rt) && !meth.locks && decide (parseMethodDescriptor y.desc = some meth.sig)) = true) : (Jvm.Cond.code y bytes mx rt).before a s = true := by
  simp only [Bool.and_eq_true, beq_iff_eq, Bool.not_eq_true', decide_eq_true_eq] at h5
  obtain ⟨⟨⟨⟨⟨g1, g2⟩, g3⟩, g4⟩, g5⟩, g6⟩ := h5
  simp [Cond.before, Cond.holds, Cond.value, h1, h2, h3, h4, g1, g2, g3, g4, g5, g6]
def isCode : Jvm.Cond → Bool
  | .code _ _ _ _ => true
  | _ => false
theorem all_split {L : List Jvm.Cond} {P : Jvm.Cond → Bool} (h1 : L.all (fun c => isCode c || P c) = true) (h2 : ∀ c ∈ L.filter isCode, P c = true) : L.all P = true := by
  refine List.all_eq_true.mpr fun c hc => ?_
  have h := List.all_eq_true.mp h1 c hc
  rcases Bool.eq_false_or_eq_true (isCode c) with hi | hi
  · exact h2 c (List.mem_filter.mpr ⟨hc, hi⟩)
  · simpa [hi] using h
set_option maxRecDepth 65536 in
theorem w_c0 : (Jvm.Cond.code x code maxLocals ret).before args0 about1 = true := code_word (m := ⟨1, 1⟩) (meth := k1m1) (c := k1c1) (by decide +kernel) rfl rfl rfl (by decide +kernel)
set_option maxRecDepth 65536 in
theorem w_c1 : (Jvm.Cond.code ({ cls := "com/example/stubwright/stubwright/idl/UnionType$Label", name := "<init>", desc := "(ZJ)V" } : Jvm.MethodName) prog_41_method_1_code (4 : Nat) (Option.none : Option Jvm.ClassFile.FieldType)).before args0 about1 = true := code_word (m := ⟨3, 0⟩) (meth := k3m0) (c := k3c0) (by decide +kernel) rfl rfl rfl (by decide +kernel)
set_option maxRecDepth 65536 in
theorem w_c2 : (Jvm.Cond.code ({ cls := "java/lang/Record", name := "<init>", desc := "()V" } : Jvm.MethodName) jdk_30_method_1_code (1 : Nat) (Option.none : Option Jvm.ClassFile.FieldType)).before args0 about1 = true := code_word (m := ⟨2, 0⟩) (meth := k2m0) (c := k2c0) (by decide +kernel) rfl rfl rfl (by decide +kernel)
set_option maxRecDepth 65536 in
theorem w_c3 : (Jvm.Cond.code ({ cls := "java/lang/Object", name := "<init>", desc := "()V" } : Jvm.MethodName) object_method_1_code (1 : Nat) (Option.none : Option Jvm.ClassFile.FieldType)).before args0 about1 = true := code_word (m := ⟨0, 0⟩) (meth := k0m0) (c := k0c0) (by decide +kernel) rfl rfl rfl (by decide +kernel)
set_option maxRecDepth 65536 in
theorem w_c4 : (Jvm.Cond.code ({ cls := "com/example/stubwright/stubwright/idl/UnionType$Label", name := "equals", desc := "(Ljava/lang/Object;)Z" } : Jvm.MethodName) prog_41_method_3_code (3 : Nat) (Option.some Jvm.ClassFile.FieldType.boolean)).before args0 about1 = true := code_word (m := ⟨3, 1⟩) (meth := k3m1) (c := k3c1) (by decide +kernel) rfl rfl rfl (by decide +kernel)
set_option maxRecDepth 65536 in
theorem w_c5 : (Jvm.Cond.code ({ cls := "java/lang/Long", name := "valueOf", desc := "(J)Ljava/lang/Long;" } : Jvm.MethodName) jdk_35_method_24_code (3 : Nat) (Option.some (Jvm.ClassFile.FieldType.object "java/lang/Long"))).before args0 about1 = true := code_word (m := ⟨9, 0⟩) (meth := k9m0) (c := k9c0) (by decide +kernel) rfl rfl rfl (by decide +kernel)
set_option maxRecDepth 65536 in
theorem w_c6 : (Jvm.Cond.code ({ cls := "java/lang/Long", name := "<init>", desc := "(J)V" } : Jvm.MethodName) jdk_35_method_26_code (3 : Nat) (Option.none : Option Jvm.ClassFile.FieldType)).before args0 about1 = true := code_word (m := ⟨9, 1⟩) (meth := k9m1) (c := k9c1) (by decide +kernel) rfl rfl rfl (by decide +kernel)
set_option maxRecDepth 65536 in
theorem w_c7 : (Jvm.Cond.code ({ cls := "java/lang/Number", name := "<init>", desc := "()V" } : Jvm.MethodName) jdk_18_method_1_code (1 : Nat) (Option.none : Option Jvm.ClassFile.FieldType)).before args0 about1 = true := code_word (m := ⟨5, 0⟩) (meth := k5m0) (c := k5c0) (by decide +kernel) rfl rfl rfl (by decide +kernel)
def codes1 : List Jvm.Cond := [Jvm.Cond.code x code maxLocals ret, Jvm.Cond.code ({ cls := "com/example/stubwright/stubwright/idl/UnionType$Label", name := "<init>", desc := "(ZJ)V" } : Jvm.MethodName) prog_41_method_1_code (4 : Nat) (Option.none : Option Jvm.ClassFile.FieldType), Jvm.Cond.code ({ cls := "java/lang/Record", name := "<init>", desc := "()V" } : Jvm.MethodName) jdk_30_method_1_code (1 : Nat) (Option.none : Option Jvm.ClassFile.FieldType), Jvm.Cond.code ({ cls := "java/lang/Object", name := "<init>", desc := "()V" } : Jvm.MethodName) object_method_1_code (1 : Nat) (Option.none : Option Jvm.ClassFile.FieldType), Jvm.Cond.code ({ cls := "com/example/stubwright/stubwright/idl/UnionType$Label", name := "equals", desc := "(Ljava/lang/Object;)Z" } : Jvm.MethodName) prog_41_method_3_code (3 : Nat) (Option.some Jvm.ClassFile.FieldType.boolean), Jvm.Cond.code ({ cls := "java/lang/Long", name := "valueOf", desc := "(J)Ljava/lang/Long;" } : Jvm.MethodName) jdk_35_method_24_code (3 : Nat) (Option.some (Jvm.ClassFile.FieldType.object "java/lang/Long")), Jvm.Cond.code ({ cls := "java/lang/Long", name := "<init>", desc := "(J)V" } : Jvm.MethodName) jdk_35_method_26_code (3 : Nat) (Option.none : Option Jvm.ClassFile.FieldType), Jvm.Cond.code ({ cls := "java/lang/Number", name := "<init>", desc := "()V" } : Jvm.MethodName) jdk_18_method_1_code (1 : Nat) (Option.none : Option Jvm.ClassFile.FieldType)]
set_option maxRecDepth 65536 in
theorem codes_eq : words1.filter isCode = codes1 := rfl
theorem w_codes : ∀ c ∈ words1.filter isCode, c.before args0 about1 = true := by
  rw [codes_eq]
  intro c hc
  simp only [codes1, List.mem_cons, List.not_mem_nil, or_false] at hc
  rcases hc with rfl | rfl | rfl | rfl | rfl | rfl | rfl | rfl
  · exact w_c0
  · exact w_c1
  · exact w_c2
  · exact w_c3
  · exact w_c4
  · exact w_c5
  · exact w_c6
  · exact w_c7
set_option maxRecDepth 65536 in
theorem w_t1 : (words1.take 24).all (fun c => isCode c || c.before args0 about1) = true := by decide +kernel
set_option maxRecDepth 65536 in
theorem w_t2 : ((words1.drop 24).take 24).all (fun c => isCode c || c.before args0 about1) = true := by decide +kernel
set_option maxRecDepth 65536 in
theorem w_t3 : ((words1.drop 24).drop 24).all (fun c => isCode c || c.before args0 about1) = true := by decide +kernel
theorem w_tables : (allAtoms (Jvm.Cond.code x code maxLocals ret :: tables_1)).before args0 about1 = true := by
  rw [allAtoms_all]
  show words1.all (fun c => c.before args0 about1) = true
  refine all_split ?_ w_codes
  rw [← List.take_append_drop 24 words1, List.all_append, w_t1, ← List.take_append_drop 24 (words1.drop 24), List.all_append, w_t2, w_t3]
  rfl
set_option maxRecDepth 65536 in
theorem w_rest : rest_1_c.before args0 about1 = true := by decide +kernel
set_option maxRecDepth 65536 in
theorem w_case : (Jvm.Cond.and given_1 narrow_1).before args0 about1 = true := by decide +kernel
theorem w_applies : (headSpec (Jvm.Cond.code x code maxLocals ret :: tables_1) room_1).applies x e0.platform about1 = true :=
  (Spec.applies_iff w_frames).mpr ⟨w_running, w_runnable, w_alone, w_named, w_hears, w_ripe, w_room, w_tables⟩
theorem atStart : AtStart classFile x code maxLocals ret World_1 tables_1 room_1 Calls_1 rest_1 Pre_1 launch0 p0 e0 about1 theMethod args0 below0 :=
  ⟨lists_1, trivial, launch0.admits_env _ _ _, launch0.least_env, fairChoices_fair.cas, fairChoices_fair.clock, w_frames, w_args, w_heap, w_applies, trivial, w_rest, w_case⟩
end start1
theorem witness_1 : WitnessClaimed_1 := ⟨start1.p0, start1.e0, start1.about1, start1.theMethod, start1.args0, start1.below0, start1.atStart⟩
end Jvm.Pilot.@@N@@
