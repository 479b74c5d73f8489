import JvmDerived
import JvmDerived.Pilot.@@N@@Statement
import JvmDerived.Pilot.@@N@@Code
set_option linter.unusedVariables false
set_option linter.unusedSimpArgs false
namespace Jvm.RoadKit
open Sem ClassFile Op Lib Jvm.Stand Jvm.Free Jvm.LawKit
section New
variable {p : Program} {l : Launch} {e : Env} {R : Room} {s : State} {m : MethodId} {args : Array Value} {below : List Frame} {meth : Method} {c : Code} {T : State} {locs : List Loc} {cells slots : Nat}
theorem retI (X : Stand p l e R s m args below meth c T locs cells slots) (hx : p.tables.exec = Jvm.exec) {pc : Nat} {Ls : Array Slot} {z : Int32} {rest : List Value} (hret : meth.sig.returnType = some .int) (hd : decode c.code pc = .ok (.ireturn, 1)) {fs : List Frame}
    (hl : ∀ (f : JFrame) (acts : List Action), f.method = m → f.locked = none → f.entered = [] → (doReturn e (T.setTop f) acts (some (.int z))).1 = T.setFrames fs) : Steps p.tables e below (T.setTop (mkF m pc Ls (.int z :: rest))) (T.setFrames fs) := by
  have hm' : T.vm.method? m = some meth := X.method'
  have hn : narrow .int (.int z) = .int z := rfl
  show Steps p.tables e below (T.setTop { method := m, pc := pc, locals := Ls, stack := _ :: rest, locked := none }) _
  jvm_step X.here [X.here.top, hx, hd, hm', hret, hn]
  first | (intro acts; rw [hl _ acts rfl rfl rfl]) | rw [hl _ _ rfl rfl rfl]
  exact Steps.refl _
/-- the run goes on from here to an end of which P holds -/
def Go (tb : Tables) (e : Env) (below : List Frame) (T : State) (g : JFrame) (P : State → Prop) : Prop := ∃ U, Steps tb e below (T.setTop g) U ∧ P U
theorem go1 {tb : Tables} {T' : State} {g g' : JFrame} {P : State → Prop} (k : ∀ t, Steps tb e below (T'.setTop g') t → Steps tb e below (T.setTop g) t) (h : Go tb e below T' g' P) : Go tb e below T g P := by
  obtain ⟨U, h1, h2⟩ := h; exact ⟨U, k U h1, h2⟩
theorem goT {tb : Tables} {T' : State} {g g' : JFrame} {P : State → Prop} (k : Steps tb e below (T.setTop g) (T'.setTop g')) (h : Go tb e below T' g' P) : Go tb e below T g P := by
  obtain ⟨U, h1, h2⟩ := h; exact ⟨U, k.trans h1, h2⟩
theorem stp {tb : Tables} {T' t : State} {g g' : JFrame} (k : ∀ t, Steps tb e below (T'.setTop g') t → Steps tb e below (T.setTop g) t) (h : Steps tb e below (T'.setTop g') t) : Steps tb e below (T.setTop g) t := k t h
theorem goB {tb : Tables} {ml : Nat} {g : JFrame} {Qp : Outcome → State → Prop} (q : entryFrame m args ml = g) (h : Go tb e below T g (fun U => ∃ o, U.status = .running ∧ Ended U below o ∧ Qp o U)) :
    ∃ s₂ o, Steps tb e below (T.setTop (entryFrame m args ml)) s₂ ∧ s₂.status = .running ∧ Ended s₂ below o ∧ Qp o s₂ := by
  obtain ⟨U, h1, o, h2, h3, h4⟩ := h; exact ⟨U, o, q ▸ h1, h2, h3, h4⟩
theorem goR (X : Stand p l e R s m args below meth c T locs cells slots) (hlocks : meth.locks = false) {v : Option Value} (hv : meth.sig.returnType = none → v = none) {g : JFrame} {kc ks : Nat} (Q : Option Value → Heap → List Loc → Prop)
    (k : ∀ fs, (∀ (f : JFrame) (acts : List Action), f.method = m → f.locked = none → f.entered = [] → (doReturn e (T.setTop f) acts v).1 = T.setFrames fs) → Steps p.tables e below (T.setTop g) (T.setFrames fs)) (hc : cells ≤ kc) (hs : slots ≤ ks) (hq : Q v T.heap locs) :
    Go p.tables e below T g (fun U => ∃ o, U.status = .running ∧ Ended U below o ∧ ∃ v L, o = .returned v ∧ Q v U.heap L ∧ FrameEnd s o U L kc ks) := by
  obtain ⟨fs, hr, hrun, hended, hW, hsame⟩ := X.leave hv hlocks
  exact ⟨_, k fs hr, _, hrun, hended, _, _, rfl, hq, ⟨_, rfl⟩, hW, hsame.mono hc hs⟩
theorem fitsG {C : String} {u : Value} (h : u.isRef = true) : fits (.object C) u = true := by rcases ref_cases h with rfl | ⟨a, rfl⟩ <;> rfl
theorem selPriv {Z : State} {a0 : Array Value} {y : MethodName} {n : Nat} (hZ : Z.Warmed39 s.vm) (wi : (Cond.instantiable y.cls n).before a0 Z = true) (wp : (Cond.privateMethod y).before a0 Z = true) (wm : (Cond.instanceMethod y).before a0 Z = true) (hy : y.cls ≠ "java/lang/invoke/MethodHandle" ∧ y.cls ≠ "java/lang/invoke/VarHandle") : (Cond.selects y.cls y y).before args s = true := by
  obtain ⟨c, k, h1, h2, -, h4, -⟩ := Cond.instantiable_spec (show (Cond.instantiable y.cls n).before args s = true from mv hZ wi)
  have h5 : k.isInterface = false := by
    cases hq : k.isInterface
    · rfl
    · rw [hq] at h4; simp at h4
  exact selects_self_of_private h1 h2 h5 (Cond.privateMethod_at (mvP hZ wp (args := #[]))) (mv hZ wm) hy
theorem nsRoot {Z : State} {a0 : Array Value} {O K : String} {n : Nat} (w : (Cond.noSuperclass O).before a0 Z = true) (wk : (Cond.instantiable K n).before a0 Z = true) (hn : O ≠ K) : NS Z O K := by
  obtain ⟨c, k, h1, h2, h3, -⟩ := Cond.noSuperclass_spec w
  obtain ⟨t, kt, g1, -⟩ := Cond.instantiable_spec wk
  have ne := ids_ne h1 g1 hn
  exact ⟨c, t, h1, g1, fun fuel => by cases fuel <;> simp [Vm.isSubclassAux, ne, h2, h3]⟩
theorem nsNo {Z : State} {a0 : Array Value} {C S K : String} {n : Nat} (w : (Cond.superclass C S).before a0 Z = true) (wk : (Cond.instantiable K n).before a0 Z = true) (N : NS Z C K) (hn : C ≠ K) : ∃ c t, Z.vm.findClass C = some c ∧ Z.vm.findClass K = some t ∧ Z.vm.assignable c t = false := by
  obtain ⟨c, t, h0, g0, n3⟩ := N
  obtain ⟨pp, k, kp, -, h2, -, -, h5, -, -⟩ := Cond.superclass_spec h0 w
  obtain ⟨t', kt, g1, g2, g3, g4, -⟩ := Cond.instantiable_spec wk
  cases g0.symm.trans g1
  have ne := ids_ne h0 g0 hn
  have g5 : kt.isInterface = false := by
    cases hq : kt.isInterface
    · rfl
    · rw [hq] at g4; simp at g4
  refine ⟨c, t, h0, g0, ?_⟩
  show Z.vm.assignableAux (255 + 1) c t = false
  simp [Vm.assignableAux, ne, h2, g2, h5, g3, g5, Vm.isSubclass, n3]
theorem goRW {vm₁ : Vm} {n : Nat} (X : Stand p l e R (s.setVm vm₁) m args below meth c T locs cells slots) (hS : s.Since vm₁ n) (hn : n ≤ T.heap.size) (hlocks : meth.locks = false) {v : Option Value} (hv : meth.sig.returnType = none → v = none) {g : JFrame} {kc ks : Nat} (Q : Option Value → Heap → List Loc → Prop)
    (k : ∀ fs, (∀ (f : JFrame) (acts : List Action), f.method = m → f.locked = none → f.entered = [] → (doReturn e (T.setTop f) acts v).1 = T.setFrames fs) → Steps p.tables e below (T.setTop g) (T.setFrames fs)) (hc : cells ≤ kc) (hs : slots ≤ ks) (hq : Q v T.heap locs) :
    Go p.tables e below T g (fun U => ∃ o, U.status = .running ∧ Ended U below o ∧ ∃ v L, o = .returned v ∧ Q v U.heap L ∧ ReturnedEndW s o U L kc ks) := by
  obtain ⟨fs, hr, hrun, hended, hE⟩ := X.leaveW hS hn hv hlocks
  exact ⟨_, k fs hr, _, hrun, hended, _, _, rfl, hq, hE.1, hE.2.1, hE.2.2.1, hE.2.2.2.mono hc hs⟩
theorem lenS {Z : State} {t : Term} {a : Addr} {cl : Cell} {n : Int32} {ty : FieldType} (ev : t.eval args Z none [] Z = some (.ref a)) (A : Arr Z Z.heap a cl ty) (h : (Term.length t).eval args Z none [] Z = some (.int n)) :
    cl.slots.size < 2 ^ 31 ∧ cl.slots.size.toInt32 = n ∧ cl.slots.size = n.toNatClampNeg ∧ ¬ n < 0 := by
  have ha := A.fin (Vm.Alike.refl _)
  by_cases q : cl.slots.size < 2 ^ 31
  · have e := len_f ev ha q
    rw [h] at e
    have e2 : n = cl.slots.size.toInt32 := by injection e with e; injection e
    have e3 := len_toInt q
    refine ⟨q, e2.symm, ?_, ?_⟩
    · rw [e2]; simp only [Int32.toNatClampNeg, e3]; rfl
    · rw [e2, Int32.lt_iff_toInt_lt, e3]; show ¬ (cl.slots.size : Int) < 0; omega
  · exfalso
    have q' : ¬ cl.slots.size < 2147483648 := q
    simp [Term.eval, ev, ha, q'] at h
end New
end Jvm.RoadKit
namespace Jvm.Pilot.@@N@@
open Jvm Jvm.ClassFile Sem Op Lib Jvm.Free Jvm.Stand Jvm.LawKit Jvm.RoadKit Bundle Jvm.Pilot.@@N@@.Jvm.D
theorem d3_0 : decode jdk_30_method_1_code 0 = .ok (.aload_n 0, 1) := by decide +kernel
theorem d3_1 : decode jdk_30_method_1_code 1 = .ok (.invokespecial 1, 3) := by decide +kernel
theorem d3_4 : decode jdk_30_method_1_code 4 = .ok (.return_, 1) := by decide +kernel
theorem pn_3 : plainName "java/lang/Record" = true := by first | (simp [plainName, overriddenIn]; done) | decide +kernel
theorem ef_3 (m : MethodId) (b1 : Addr) : entryFrame m #[(.ref b1)] 1 = mkF m 0 #[.val (.ref b1)] [] := by first | (simp [entryFrame, mkF, argsToLocals, Value.category]; done) | rfl
def Q3 (Z : State) (b1 : Addr) (h0 : Heap) (n0 : Nat) (v : Option Value) (h : Heap) (L : List Loc) : Prop := v = none ∧ Fr n0 L ∧ h = h0
set_option maxRecDepth 65536 in
set_option maxHeartbeats 40000000 in
theorem rm3 (l : Launch) (Z : State) (a0 : Array Value) (hw : ∀ d ∈ tables_1, d.before a0 Z = true) (ws : List Jvm.Cond) (b1 : Addr) (h0 : Heap) (n0 : Nat) (Z0 : n0 ≤ h0.size) :
    MetFree l (⟨"java/lang/Record", "<init>", "()V"⟩ : MethodName) (head1 (Jvm.Cond.code (⟨"java/lang/Record", "<init>", "()V"⟩ : MethodName) jdk_30_method_1_code 1 none :: ws) ({ frames := 1, cells := 0, slots := 0, locals := 12 } : Room)) (fun a U => a = #[(.ref b1)] ∧ Z.Warmed39 U.vm ∧ U.heap = h0) (fun _ _ _ _ _ => True) (fun _ U o U' => ∃ v L, o = .returned v ∧ Q3 Z b1 h0 n0 v U'.heap L ∧ FrameEnd U o U' L ({ frames := 1, cells := 0, slots := 0, locals := 12 } : Room).cells ({ frames := 1, cells := 0, slots := 0, locals := 12 } : Room).slots) := by
  refine MetFree.of_bodySF (plainFor_of_name pn_3) hisR ?_
  intro p e s m args below meth c s₁ Bd hml0 hP hK
  obtain ⟨rfl, hZ, hh⟩ := hP
  have hx := Bd.exec
  have hby := Bd.bytes
  have hml : c.maxLocals = 1 := hml0
  have hown : s.vm.findClass "java/lang/Record" = some m.cls := findClass_of_methodNamed Bd.named
  have hnm := (name_of_methodNamed Bd.named Bd.method).1
  have X0 : Stand p l e ({ frames := 1, cells := 0, slots := 0, locals := 12 } : Room) s m #[(.ref b1)] below meth c s₁ [] 0 0 := Stand.of_body Bd
  have e0 : s₁.heap = h0 := by rw [← hh, Bd.state]; rfl
  have N0 := Fr.nil n0
  refine goB (ef_3 m b1) ?_
  show Go p.tables e below s₁ (mkF m 0 #[.val (.ref b1)] []) _
  refine go1 (fun _ => XS.aloadN X0.here hx rfl (hb hby d3_0) rfl rfl) ?_
  show Go p.tables e below s₁ (mkF m 1 #[.val (.ref b1)] [(.ref b1)]) _
  obtain ⟨T1, X1, e1, st1⟩ := initO X0 hx hZ hown (hw _ (List.mem_of_getElem? (i := 23) rfl)) (hw _ (List.mem_of_getElem? (i := 24) rfl)) (hw _ (List.mem_of_getElem? (i := 25) rfl)) e0 (g := (mkF m 1 #[.val (.ref b1)] [(.ref b1)])) rfl (by rw [hml]; rfl) rfl (hb hby d3_1) (by decide) (W := 0) (by show 2 * 0 + _ ≤ _; exact Nat.le_of_eq rfl) (by decide)
  refine go1 st1 ?_
  show Go p.tables e below T1 (mkF m 4 #[.val (.ref b1)] []) _
  refine goR X1 (BodyLoose.notSynchronized Bd) (v := none) (fun _ => rfl) (Q3 Z b1 h0 n0) (fun fs hr => X1.returnOut hx Bd.returns (hb hby d3_4) hr) (by decide) (by decide) ?_
  show Q3 Z b1 h0 n0 _ T1.heap _
  rw [e1]
  exact ⟨rfl, N0, rfl⟩
theorem d10_0 : decode jdk_43_method_3_code 0 = .ok (.iload_n 0, 1) := by decide +kernel
theorem d10_1 : decode jdk_43_method_3_code 1 = .ok (.sipush 255, 3) := by decide +kernel
theorem d10_4 : decode jdk_43_method_3_code 4 = .ok (.if_icmp .gt 7, 3) := by decide +kernel
theorem d10_7 : decode jdk_43_method_3_code 7 = .ok (.iconst 1, 1) := by decide +kernel
theorem d10_8 : decode jdk_43_method_3_code 8 = .ok (.goto 4, 3) := by decide +kernel
theorem d10_12 : decode jdk_43_method_3_code 12 = .ok (.ireturn, 1) := by decide +kernel
theorem pn_10 : plainName "java/lang/StringLatin1" = true := by first | (simp [plainName, overriddenIn]; done) | decide +kernel
theorem ef_10 (m : MethodId) (p1 : Int32) : entryFrame m #[(.int p1)] 1 = mkF m 0 #[.val (.int p1)] [] := by first | (simp [entryFrame, mkF, argsToLocals, Value.category]; done) | rfl
def Q10 (Z : State) (p1 : Int32) (h0 : Heap) (n0 : Nat) (v : Option Value) (h : Heap) (L : List Loc) : Prop := v = some (.int (1 : Int32)) ∧ Fr n0 L ∧ h = h0
set_option maxRecDepth 65536 in
set_option maxHeartbeats 40000000 in
theorem rm10 (l : Launch) (Z : State) (a0 : Array Value) (hw : ∀ d ∈ tables_1, d.before a0 Z = true) (ws : List Jvm.Cond) (p1 : Int32) (h0 : Heap) (n0 : Nat) (Z0 : n0 ≤ h0.size) (hl : ¬ ((255 : Int32) < p1)) :
    MetFree l (⟨"java/lang/StringLatin1", "canEncode", "(C)Z"⟩ : MethodName) (head1 (Jvm.Cond.code (⟨"java/lang/StringLatin1", "canEncode", "(C)Z"⟩ : MethodName) jdk_43_method_3_code 1 (some .boolean) :: ws) ({ frames := 0, cells := 0, slots := 0, locals := 0 } : Room)) (fun a U => a = #[(.int p1)] ∧ Z.Warmed39 U.vm ∧ U.heap = h0) (fun _ _ _ _ _ => True) (fun _ U o U' => ∃ v L, o = .returned v ∧ Q10 Z p1 h0 n0 v U'.heap L ∧ FrameEnd U o U' L ({ frames := 0, cells := 0, slots := 0, locals := 0 } : Room).cells ({ frames := 0, cells := 0, slots := 0, locals := 0 } : Room).slots) := by
  refine MetFree.of_bodySF (plainFor_of_name pn_10) hisR ?_
  intro p e s m args below meth c s₁ Bd hml0 hP hK
  obtain ⟨rfl, hZ, hh⟩ := hP
  have hx := Bd.exec
  have hby := Bd.bytes
  have hml : c.maxLocals = 1 := hml0
  have hown : s.vm.findClass "java/lang/StringLatin1" = some m.cls := findClass_of_methodNamed Bd.named
  have hnm := (name_of_methodNamed Bd.named Bd.method).1
  have X0 : Stand p l e ({ frames := 0, cells := 0, slots := 0, locals := 0 } : Room) s m #[(.int p1)] below meth c s₁ [] 0 0 := Stand.of_body Bd
  have e0 : s₁.heap = h0 := by rw [← hh, Bd.state]; rfl
  have N0 := Fr.nil n0
  refine goB (ef_10 m p1) ?_
  show Go p.tables e below s₁ (mkF m 0 #[.val (.int p1)] []) _
  refine go1 (fun _ => XS.iloadN X0.here hx rfl (hb hby d10_0) rfl) ?_
  show Go p.tables e below s₁ (mkF m 1 #[.val (.int p1)] [(.int p1)]) _
  refine go1 (fun _ => XS.sipush X0.here hx rfl (hb hby d10_1)) ?_
  show Go p.tables e below s₁ (mkF m 4 #[.val (.int p1)] [(.int (255 : Int32)), (.int p1)]) _
  refine go1 (fun _ => XS.icmpNo X0.here hx rfl (hb hby d10_4) rfl (flt hl).2.2.1) ?_
  show Go p.tables e below s₁ (mkF m 7 #[.val (.int p1)] []) _
  refine go1 (fun _ => XS.iconst X0.here hx rfl (hb hby d10_7)) ?_
  show Go p.tables e below s₁ (mkF m 8 #[.val (.int p1)] [(.int (1 : Int32))]) _
  refine go1 (fun _ => XS.goto X0.here hx rfl (pc0 := 8) (pc' := 12) rfl (hb hby d10_8) (by decide) (by decide)) ?_
  show Go p.tables e below s₁ (mkF m 12 #[.val (.int p1)] [(.int (1 : Int32))]) _
  refine goR X0 (BodyLoose.notSynchronized Bd) (v := (some (.int (1 : Int32)))) (fun h => by rw [Bd.returns] at h; cases h) (Q10 Z p1 h0 n0) (fun fs hr => retN X0 hx (t := .boolean) Bd.returns (by simp) (hb hby d10_12) hr) (by decide) (by decide) ?_
  show Q10 Z p1 h0 n0 _ s₁.heap _
  rw [e0]
  exact ⟨rfl, N0, rfl⟩
theorem d11_0 : decode jdk_43_method_46_code 0 = .ok (.iconst 1, 1) := by decide +kernel
theorem d11_1 : decode jdk_43_method_46_code 1 = .ok (.newarray .byte, 2) := by decide +kernel
theorem d11_3 : decode jdk_43_method_46_code 3 = .ok (.dup, 1) := by decide +kernel
theorem d11_4 : decode jdk_43_method_46_code 4 = .ok (.iconst 0, 1) := by decide +kernel
theorem d11_5 : decode jdk_43_method_46_code 5 = .ok (.iload_n 0, 1) := by decide +kernel
theorem d11_6 : decode jdk_43_method_46_code 6 = .ok (.i2b, 1) := by decide +kernel
theorem d11_7 : decode jdk_43_method_46_code 7 = .ok (.bastore, 1) := by decide +kernel
theorem d11_8 : decode jdk_43_method_46_code 8 = .ok (.areturn, 1) := by decide +kernel
theorem pn_11 : plainName "java/lang/StringLatin1" = true := by first | (simp [plainName, overriddenIn]; done) | decide +kernel
theorem ef_11 (m : MethodId) (p1 : Int32) : entryFrame m #[(.int p1)] 1 = mkF m 0 #[.val (.int p1)] [] := by first | (simp [entryFrame, mkF, argsToLocals, Value.category]; done) | rfl
def Q11 (Z : State) (p1 : Int32) (h0 : Heap) (n0 : Nat) (v : Option Value) (h : Heap) (L : List Loc) : Prop := ∃ (b : Addr), v = some (.ref b) ∧ Fr n0 L ∧ Keep h0 h []
set_option maxRecDepth 65536 in
set_option maxHeartbeats 40000000 in
theorem rm11 (l : Launch) (Z : State) (a0 : Array Value) (hw : ∀ d ∈ tables_1, d.before a0 Z = true) (ws : List Jvm.Cond) (p1 : Int32) (h0 : Heap) (n0 : Nat) (Z0 : n0 ≤ h0.size) :
    MetFree l (⟨"java/lang/StringLatin1", "toBytes", "(C)[B"⟩ : MethodName) (head1 (Jvm.Cond.code (⟨"java/lang/StringLatin1", "toBytes", "(C)[B"⟩ : MethodName) jdk_43_method_46_code 1 (some (.array .byte)) :: ws) ({ frames := 0, cells := 1, slots := 1, locals := 0 } : Room)) (fun a U => a = #[(.int p1)] ∧ Z.Warmed39 U.vm ∧ U.heap = h0) (fun _ _ _ _ _ => True) (fun _ U o U' => ∃ v L, o = .returned v ∧ Q11 Z p1 h0 n0 v U'.heap L ∧ FrameEnd U o U' L ({ frames := 0, cells := 1, slots := 1, locals := 0 } : Room).cells ({ frames := 0, cells := 1, slots := 1, locals := 0 } : Room).slots) := by
  refine MetFree.of_bodySF (plainFor_of_name pn_11) hisR ?_
  intro p e s m args below meth c s₁ Bd hml0 hP hK
  obtain ⟨rfl, hZ, hh⟩ := hP
  have hx := Bd.exec
  have hby := Bd.bytes
  have hml : c.maxLocals = 1 := hml0
  have hown : s.vm.findClass "java/lang/StringLatin1" = some m.cls := findClass_of_methodNamed Bd.named
  have hnm := (name_of_methodNamed Bd.named Bd.method).1
  have X0 : Stand p l e ({ frames := 0, cells := 1, slots := 1, locals := 0 } : Room) s m #[(.int p1)] below meth c s₁ [] 0 0 := Stand.of_body Bd
  have e0 : s₁.heap = h0 := by rw [← hh, Bd.state]; rfl
  have N0 := Fr.nil n0
  refine goB (ef_11 m p1) ?_
  show Go p.tables e below s₁ (mkF m 0 #[.val (.int p1)] []) _
  refine go1 (fun _ => XS.iconst X0.here hx rfl (hb hby d11_0)) ?_
  show Go p.tables e below s₁ (mkF m 1 #[.val (.int p1)] [(.int (1 : Int32))]) _
  obtain ⟨T1, h1, k1, X1, e1, E1, A1, st1⟩ := newP X0 hx hZ (hw _ (List.mem_of_getElem? (i := 7) rfl)) e0 (g := (mkF m 1 #[.val (.int p1)] [(.int (1 : Int32))])) rfl (hb hby d11_1) rfl (by decide) (cap := 1) (by decide) (by decide) (by decide) (by decide)
  obtain ⟨b1, g1⟩ : ∃ z, z = h0.size := ⟨_, rfl⟩
  rw [← g1] at A1 st1
  have g_b1 : n0 ≤ b1 := Nat.le_trans Z0 (Nat.le_of_eq g1.symm)
  have V_b1 : Arv Z h1 b1 k1 .byte (1 : Int32) [] (.int 0) := Arv.new A1 (by decide)
  refine go1 st1 ?_
  show Go p.tables e below T1 (mkF m 3 #[.val (.int p1)] [(.ref b1)]) _
  refine go1 (fun _ => XS.dup X1.here hx rfl (hb hby d11_3) rfl rfl) ?_
  show Go p.tables e below T1 (mkF m 4 #[.val (.int p1)] [(.ref b1), (.ref b1)]) _
  refine go1 (fun _ => XS.iconst X1.here hx rfl (hb hby d11_4)) ?_
  show Go p.tables e below T1 (mkF m 5 #[.val (.int p1)] [(.int (0 : Int32)), (.ref b1), (.ref b1)]) _
  refine go1 (fun _ => XS.iloadN X1.here hx rfl (hb hby d11_5) rfl) ?_
  show Go p.tables e below T1 (mkF m 6 #[.val (.int p1)] [(.int p1), (.int (0 : Int32)), (.ref b1), (.ref b1)]) _
  refine go1 (fun _ => XS.i2b X1.here hx rfl (hb hby d11_6) rfl) ?_
  show Go p.tables e below T1 (mkF m 7 #[.val (.int p1)] [(.int (p1.toInt8.toInt32)), (.int (0 : Int32)), (.ref b1), (.ref b1)]) _
  have vo2 := V_b1
  obtain ⟨cl2, Ar2, q2, S2, M2, H2, G2⟩ := vo2
  have hin2 := inb_of (j := (0 : Int32)) S2 ⟨by decide, by decide⟩
  obtain ⟨T2, h2, X2, e2, W2, st2⟩ := stB X1 hx hZ e1 Ar2 (j := (0 : Int32)) hin2 (g := (mkF m 7 #[.val (.int p1)] [(.int (p1.toInt8.toInt32)), (.int (0 : Int32)), (.ref b1), (.ref b1)])) rfl rfl (hb hby d11_7)
  refine go1 st2 ?_
  have N2 := Fr.snoc X2 N0 g_b1
  show Go p.tables e below T2 (mkF m 8 #[.val (.int p1)] [(.ref b1)]) _
  refine goR X2 (BodyLoose.notSynchronized Bd) (v := (some (.ref b1))) (fun h => by rw [Bd.returns] at h; cases h) (Q11 Z p1 h0 n0) (fun fs hr => retOut X2 hx (t := (.array .byte)) (w := (.ref b1)) Bd.returns rfl (Or.inr (Or.inr (Or.inr (Or.inr ⟨rfl, rfl, rfl⟩)))) (hb hby d11_8) hr) (by decide) (by decide) ?_
  show Q11 Z p1 h0 n0 _ T2.heap _
  rw [e2]
  exact ⟨b1, rfl, N2, (((Keep.refl h0 []).ext E1).wr W2 (Or.inr (Nat.le_trans (Nat.le_refl h0.size) (Nat.le_of_eq g1.symm))))⟩
theorem d12_0 : decode jdk_42_method_151_code 0 = .ok (.aload_n 0, 1) := by decide +kernel
theorem d12_1 : decode jdk_42_method_151_code 1 = .ok (.invokespecial 1, 3) := by decide +kernel
theorem d12_4 : decode jdk_42_method_151_code 4 = .ok (.aload_n 0, 1) := by decide +kernel
theorem d12_5 : decode jdk_42_method_151_code 5 = .ok (.aload_n 1, 1) := by decide +kernel
theorem d12_6 : decode jdk_42_method_151_code 6 = .ok (.putfield 9, 3) := by decide +kernel
theorem d12_9 : decode jdk_42_method_151_code 9 = .ok (.aload_n 0, 1) := by decide +kernel
theorem d12_10 : decode jdk_42_method_151_code 10 = .ok (.iload_n 2, 1) := by decide +kernel
theorem d12_11 : decode jdk_42_method_151_code 11 = .ok (.putfield 15, 3) := by decide +kernel
theorem d12_14 : decode jdk_42_method_151_code 14 = .ok (.return_, 1) := by decide +kernel
theorem pn_12 : plainName "java/lang/String" = true := by first | (simp [plainName, overriddenIn]; done) | decide +kernel
theorem ef_12 (m : MethodId) (b1 : Addr) (t1 : Addr) : entryFrame m #[(.ref b1), (.ref t1), (.int (0 : Int32))] 3 = mkF m 0 #[.val (.ref b1), .val (.ref t1), .val (.int (0 : Int32))] [] := by first | (simp [entryFrame, mkF, argsToLocals, Value.category]; done) | rfl
def Q12 (Z : State) (b1 : Addr) (t1 : Addr) (h0 : Heap) (n0 : Nat) (v : Option Value) (h : Heap) (L : List Loc) : Prop := v = none ∧ Fr n0 L ∧ Keep h0 h [b1] ∧ Exa Z h b1 "java/lang/String"
set_option maxRecDepth 65536 in
set_option maxHeartbeats 40000000 in
theorem rm12 (l : Launch) (Z : State) (a0 : Array Value) (hw : ∀ d ∈ tables_1, d.before a0 Z = true) (ws : List Jvm.Cond) (b1 : Addr) (t1 : Addr) (h0 : Heap) (n0 : Nat) (Z0 : n0 ≤ h0.size) (F_value_b1 : Fld Z h0 b1 "java/lang/String" "value" "[B" .null) (F_coder_b1 : Fld Z h0 b1 "java/lang/String" "coder" "B" (.int (0 : Int32))) (E_b1 : Exa Z h0 b1 "java/lang/String") (g_b1 : n0 ≤ b1) :
    MetFree l (⟨"java/lang/String", "<init>", "([BB)V"⟩ : MethodName) (head1 (Jvm.Cond.code (⟨"java/lang/String", "<init>", "([BB)V"⟩ : MethodName) jdk_42_method_151_code 3 none :: ws) ({ frames := 1, cells := 0, slots := 0, locals := 12 } : Room)) (fun a U => a = #[(.ref b1), (.ref t1), (.int (0 : Int32))] ∧ Z.Warmed39 U.vm ∧ U.heap = h0) (fun _ _ _ _ _ => True) (fun _ U o U' => ∃ v L, o = .returned v ∧ Q12 Z b1 t1 h0 n0 v U'.heap L ∧ FrameEnd U o U' L ({ frames := 1, cells := 0, slots := 0, locals := 12 } : Room).cells ({ frames := 1, cells := 0, slots := 0, locals := 12 } : Room).slots) := by
  refine MetFree.of_bodySF (plainFor_of_name pn_12) hisR ?_
  intro p e s m args below meth c s₁ Bd hml0 hP hK
  obtain ⟨rfl, hZ, hh⟩ := hP
  have hx := Bd.exec
  have hby := Bd.bytes
  have hml : c.maxLocals = 3 := hml0
  have hown : s.vm.findClass "java/lang/String" = some m.cls := findClass_of_methodNamed Bd.named
  have hnm := (name_of_methodNamed Bd.named Bd.method).1
  have X0 : Stand p l e ({ frames := 1, cells := 0, slots := 0, locals := 12 } : Room) s m #[(.ref b1), (.ref t1), (.int (0 : Int32))] below meth c s₁ [] 0 0 := Stand.of_body Bd
  have e0 : s₁.heap = h0 := by rw [← hh, Bd.state]; rfl
  have N0 := Fr.nil n0
  refine goB (ef_12 m b1 t1) ?_
  show Go p.tables e below s₁ (mkF m 0 #[.val (.ref b1), .val (.ref t1), .val (.int (0 : Int32))] []) _
  refine go1 (fun _ => XS.aloadN X0.here hx rfl (hb hby d12_0) rfl rfl) ?_
  show Go p.tables e below s₁ (mkF m 1 #[.val (.ref b1), .val (.ref t1), .val (.int (0 : Int32))] [(.ref b1)]) _
  obtain ⟨T1, X1, e1, st1⟩ := initO X0 hx hZ hown (hw _ (List.mem_of_getElem? (i := 72) rfl)) (hw _ (List.mem_of_getElem? (i := 24) rfl)) (hw _ (List.mem_of_getElem? (i := 25) rfl)) e0 (g := (mkF m 1 #[.val (.ref b1), .val (.ref t1), .val (.int (0 : Int32))] [(.ref b1)])) rfl (by rw [hml]; rfl) rfl (hb hby d12_1) (by decide) (W := 0) (by show 2 * 0 + _ ≤ _; exact Nat.le_of_eq rfl) (by decide)
  refine go1 st1 ?_
  show Go p.tables e below T1 (mkF m 4 #[.val (.ref b1), .val (.ref t1), .val (.int (0 : Int32))] []) _
  refine go1 (fun _ => XS.aloadN X1.here hx rfl (hb hby d12_4) rfl rfl) ?_
  show Go p.tables e below T1 (mkF m 5 #[.val (.ref b1), .val (.ref t1), .val (.int (0 : Int32))] [(.ref b1)]) _
  refine go1 (fun _ => XS.aloadN X1.here hx rfl (hb hby d12_5) rfl rfl) ?_
  show Go p.tables e below T1 (mkF m 6 #[.val (.ref b1), .val (.ref t1), .val (.int (0 : Int32))] [(.ref t1), (.ref b1)]) _
  obtain ⟨T2, h2, X2, e2, W2, st2⟩ := putF X1 hx hZ hown (host := "") (Or.inl (hw _ (List.mem_of_getElem? (i := 73) rfl))) Via.refl e1 F_value_b1 E_b1 (Or.inr ⟨(hw _ (List.mem_of_getElem? (i := 8) rfl)), rfl, hnm⟩) (hw _ (List.mem_of_getElem? (i := 6) rfl)) (ty := (.array .byte)) (by decide) rfl rfl (g := (mkF m 6 #[.val (.ref b1), .val (.ref t1), .val (.int (0 : Int32))] [(.ref t1), (.ref b1)])) rfl rfl (hb hby d12_6)
  refine go1 st2 ?_
  have Fw2 := F_value_b1.same W2
  have N2 := Fr.snoc X2 N0 g_b1
  show Go p.tables e below T2 (mkF m 9 #[.val (.ref b1), .val (.ref t1), .val (.int (0 : Int32))] []) _
  refine go1 (fun _ => XS.aloadN X2.here hx rfl (hb hby d12_9) rfl rfl) ?_
  show Go p.tables e below T2 (mkF m 10 #[.val (.ref b1), .val (.ref t1), .val (.int (0 : Int32))] [(.ref b1)]) _
  refine go1 (fun _ => XS.iloadN X2.here hx rfl (hb hby d12_10) rfl) ?_
  show Go p.tables e below T2 (mkF m 11 #[.val (.ref b1), .val (.ref t1), .val (.int (0 : Int32))] [(.int (0 : Int32)), (.ref b1)]) _
  obtain ⟨T3, h3, X3, e3, W3, st3⟩ := putFN X2 hx hZ hown (hw _ (List.mem_of_getElem? (i := 74) rfl)) Via.refl e2 (F_coder_b1.other W2 (Or.inr (slot_ne (Or.inr (hw _ (List.mem_of_getElem? (i := 9) rfl))) (Or.inr (hw _ (List.mem_of_getElem? (i := 8) rfl))) (by decide) (t := .byte) (t' := (.array .byte)) (by decide) (by decide)))) (E_b1.wr W2) (Or.inr ⟨(hw _ (List.mem_of_getElem? (i := 9) rfl)), rfl, hnm⟩) (hw _ (List.mem_of_getElem? (i := 6) rfl)) (ty := .byte) (v' := (.int (0 : Int32))) (by decide) rfl (by decide) (g := (mkF m 11 #[.val (.ref b1), .val (.ref t1), .val (.int (0 : Int32))] [(.int (0 : Int32)), (.ref b1)])) rfl rfl (hb hby d12_11)
  refine go1 st3 ?_
  have Fw3 := (F_coder_b1.other W2 (Or.inr (slot_ne (Or.inr (hw _ (List.mem_of_getElem? (i := 9) rfl))) (Or.inr (hw _ (List.mem_of_getElem? (i := 8) rfl))) (by decide) (t := .byte) (t' := (.array .byte)) (by decide) (by decide)))).same W3
  have N3 := Fr.snoc X3 N2 g_b1
  show Go p.tables e below T3 (mkF m 14 #[.val (.ref b1), .val (.ref t1), .val (.int (0 : Int32))] []) _
  refine goR X3 (BodyLoose.notSynchronized Bd) (v := none) (fun _ => rfl) (Q12 Z b1 t1 h0 n0) (fun fs hr => X3.returnOut hx Bd.returns (hb hby d12_14) hr) (by decide) (by decide) ?_
  show Q12 Z b1 t1 h0 n0 _ T3.heap _
  rw [e3]
  exact ⟨rfl, N3, (((Keep.refl h0 [b1]).wr W2 (Or.inl (List.mem_of_getElem? (i := 0) rfl))).wr W3 (Or.inl (List.mem_of_getElem? (i := 0) rfl))), ((E_b1.wr W2).wr W3)⟩
theorem d9_0 : decode jdk_42_method_139_code 0 = .ok (.getstatic 38, 3) := by decide +kernel
theorem d9_3 : decode jdk_42_method_139_code 3 = .ok (.ifCond .eq 23, 3) := by decide +kernel
theorem d9_6 : decode jdk_42_method_139_code 6 = .ok (.iload_n 0, 1) := by decide +kernel
theorem d9_7 : decode jdk_42_method_139_code 7 = .ok (.invokestatic 1015, 3) := by decide +kernel
theorem d9_10 : decode jdk_42_method_139_code 10 = .ok (.ifCond .eq 16, 3) := by decide +kernel
theorem d9_13 : decode jdk_42_method_139_code 13 = .ok (.new 10, 3) := by decide +kernel
theorem d9_16 : decode jdk_42_method_139_code 16 = .ok (.dup, 1) := by decide +kernel
theorem d9_17 : decode jdk_42_method_139_code 17 = .ok (.iload_n 0, 1) := by decide +kernel
theorem d9_18 : decode jdk_42_method_139_code 18 = .ok (.invokestatic 1018, 3) := by decide +kernel
theorem d9_21 : decode jdk_42_method_139_code 21 = .ok (.iconst 0, 1) := by decide +kernel
theorem d9_22 : decode jdk_42_method_139_code 22 = .ok (.invokespecial 209, 3) := by decide +kernel
theorem d9_25 : decode jdk_42_method_139_code 25 = .ok (.areturn, 1) := by decide +kernel
theorem pn_9 : plainName "java/lang/String" = true := by first | (simp [plainName, overriddenIn]; done) | decide +kernel
theorem pd9_0 : parseMethodDescriptor "(C)Z" = some ⟨[.char], some .boolean⟩ := by decide +kernel
theorem pd9_1 : parseMethodDescriptor "(C)[B" = some ⟨[.char], some (.array .byte)⟩ := by decide +kernel
theorem pd9_2 : parseMethodDescriptor "([BB)V" = some ⟨[(.array .byte), .byte], none⟩ := by decide +kernel
theorem ef_9 (m : MethodId) (p1 : Int32) : entryFrame m #[(.int p1)] 1 = mkF m 0 #[.val (.int p1)] [] := by first | (simp [entryFrame, mkF, argsToLocals, Value.category]; done) | rfl
def Q9 (Z : State) (p1 : Int32) (a_COMPACT_STRINGS : Int32) (h0 : Heap) (n0 : Nat) (v : Option Value) (h : Heap) (L : List Loc) : Prop := ∃ (b : Addr), v = some (.ref b) ∧ Fr n0 L ∧ Keep h0 h []
set_option maxRecDepth 65536 in
set_option maxHeartbeats 40000000 in
theorem rm9 (l : Launch) (Z : State) (a0 : Array Value) (hw : ∀ d ∈ tables_1, d.before a0 Z = true) (ws : List Jvm.Cond) (p1 : Int32) (a_COMPACT_STRINGS : Int32) (h0 : Heap) (n0 : Nat) (Z0 : n0 ≤ h0.size) (O0 : Old Z n0 h0) (S_COMPACT_STRINGS : Sta Z Z.heap "java/lang/String" "COMPACT_STRINGS" "Z" (.int a_COMPACT_STRINGS)) (P_a_COMPACT_STRINGS : ¬ (a_COMPACT_STRINGS = (0 : Int32))) (hl : ¬ ((255 : Int32) < p1)) :
    MetFree l (⟨"java/lang/String", "valueOf", "(C)Ljava/lang/String;"⟩ : MethodName) (head1 (Jvm.Cond.code (⟨"java/lang/String", "valueOf", "(C)Ljava/lang/String;"⟩ : MethodName) jdk_42_method_139_code 1 (some (.object "java/lang/String")) :: ws) ({ frames := 2, cells := 2, slots := 5, locals := 27 } : Room)) (fun a U => a = #[(.int p1)] ∧ Z.Warmed39 U.vm ∧ U.heap = h0) (fun _ _ _ _ _ => True) (fun _ U o U' => ∃ v L, o = .returned v ∧ Q9 Z p1 a_COMPACT_STRINGS h0 n0 v U'.heap L ∧ FrameEnd U o U' L ({ frames := 2, cells := 2, slots := 5, locals := 27 } : Room).cells ({ frames := 2, cells := 2, slots := 5, locals := 27 } : Room).slots) := by
  refine MetFree.of_bodySF (plainFor_of_name pn_9) hisR ?_
  intro p e s m args below meth c s₁ Bd hml0 hP hK
  obtain ⟨rfl, hZ, hh⟩ := hP
  have hx := Bd.exec
  have hby := Bd.bytes
  have hml : c.maxLocals = 1 := hml0
  have hown : s.vm.findClass "java/lang/String" = some m.cls := findClass_of_methodNamed Bd.named
  have hnm := (name_of_methodNamed Bd.named Bd.method).1
  have X0 : Stand p l e ({ frames := 2, cells := 2, slots := 5, locals := 27 } : Room) s m #[(.int p1)] below meth c s₁ [] 0 0 := Stand.of_body Bd
  have e0 : s₁.heap = h0 := by rw [← hh, Bd.state]; rfl
  have N0 := Fr.nil n0
  refine goB (ef_9 m p1) ?_
  show Go p.tables e below s₁ (mkF m 0 #[.val (.int p1)] []) _
  obtain ⟨T1, X1, e1, st1⟩ := getS2 X0 hx hZ hown (host := "") (Or.inl (hw _ (List.mem_of_getElem? (i := 59) rfl))) Via.refl e0 (S_COMPACT_STRINGS.ext O0.2) (g := (mkF m 0 #[.val (.int p1)] [])) rfl (hb hby d9_0)
  refine go1 st1 ?_
  show Go p.tables e below T1 (mkF m 3 #[.val (.int p1)] [(.int a_COMPACT_STRINGS)]) _
  refine go1 (fun _ => XS.ifNo X1.here hx rfl (hb hby d9_3) rfl ((if0 _ _).trans (feq P_a_COMPACT_STRINGS).1)) ?_
  show Go p.tables e below T1 (mkF m 6 #[.val (.int p1)] []) _
  refine go1 (fun _ => XS.iloadN X1.here hx rfl (hb hby d9_6) rfl) ?_
  show Go p.tables e below T1 (mkF m 7 #[.val (.int p1)] [(.int p1)]) _
  obtain ⟨_, _, ⟨T2, L2, k2, n2⟩, -, X2, ⟨Lc2, hQ2, l2, y2, z2⟩, st2⟩ := Jvm.LawKit.callS X1 hx (y := (⟨"java/lang/StringLatin1", "canEncode", "(C)Z"⟩ : MethodName)) hown (mvT hZ (hw _ (List.mem_of_getElem? (i := 60) rfl))) (mvT hZ (hw _ (List.mem_of_getElem? (i := 61) rfl))) (mvT hZ (hw _ (List.mem_of_getElem? (i := 62) rfl))) (mvT hZ (hw _ (List.mem_of_getElem? (i := 63) rfl))) (by decide) (backOf (W := 0) (rm10 l Z a0 hw [] p1 h0 n0 Z0 hl) hZ (hw _ (List.mem_of_getElem? (i := 63) rfl)) (hw _ (List.mem_of_getElem? (i := 62) rfl)) (by decide) (by decide)) (g := (mkF m 7 #[.val (.int p1)] [(.int p1)])) rfl (by rw [hml]; rfl) (argsL := [(.int p1)]) (rest := []) (lenOf pd9_0 rfl) rfl (by show 2 * 0 + _ ≤ _; exact Nat.le_of_eq rfl) (hb hby d9_7) (fun _ _ => ⟨rfl, e1, (by decide : 0 + 0 ≤ _), (by decide : 0 + 0 ≤ _)⟩)
  dsimp only [Pt.U, Pt.locs, Pt.cells, Pt.slots] at X2 l2 y2 z2 st2 hQ2
  subst l2 y2 z2
  obtain ⟨rfl, N2q, e2⟩ := hQ2
  have N2 := Fr.app N0 N2q
  refine go1 st2 ?_
  show Go p.tables e below T2 (mkF m 10 #[.val (.int p1)] [(.int (1 : Int32))]) _
  refine go1 (fun _ => XS.ifNo X2.here hx rfl (hb hby d9_10) rfl ((if0 _ _).trans (feq (by decide : ¬ ((1 : Int32) = (0 : Int32)))).1)) ?_
  show Go p.tables e below T2 (mkF m 13 #[.val (.int p1)] []) _
  obtain ⟨T3, h3, X3, e3, E3, A3, D3, -, st3⟩ := newO X2 hx hZ hown (hw _ (List.mem_of_getElem? (i := 64) rfl)) (hw _ (List.mem_of_getElem? (i := 6) rfl)) (hw _ (List.mem_of_getElem? (i := 5) rfl)) e2 (g := (mkF m 13 #[.val (.int p1)] [])) rfl (hb hby d9_13) (by decide) (by decide)
  obtain ⟨b3, g3⟩ : ∃ z, z = h0.size := ⟨_, rfl⟩
  rw [← g3] at A3 D3 st3
  have g_b3 : n0 ≤ b3 := Nat.le_trans Z0 (Nat.le_of_eq g3.symm)
  have F_value_b3 : Fld Z h3 b3 "java/lang/String" "value" "[B" .null := D3 (Or.inr (hw _ (List.mem_of_getElem? (i := 8) rfl))) (ty := (.array .byte)) (by decide)
  have F_coder_b3 : Fld Z h3 b3 "java/lang/String" "coder" "B" (.int (0 : Int32)) := D3 (Or.inr (hw _ (List.mem_of_getElem? (i := 9) rfl))) (ty := .byte) (by decide)
  refine go1 st3 ?_
  show Go p.tables e below T3 (mkF m 16 #[.val (.int p1)] [(.ref b3)]) _
  refine go1 (fun _ => XS.dup X3.here hx rfl (hb hby d9_16) rfl rfl) ?_
  show Go p.tables e below T3 (mkF m 17 #[.val (.int p1)] [(.ref b3), (.ref b3)]) _
  refine go1 (fun _ => XS.iloadN X3.here hx rfl (hb hby d9_17) rfl) ?_
  show Go p.tables e below T3 (mkF m 18 #[.val (.int p1)] [(.int p1), (.ref b3), (.ref b3)]) _
  obtain ⟨_, _, ⟨T4, L4, k4, n4⟩, -, X4, ⟨Lc4, hQ4, l4, y4, z4⟩, st4⟩ := Jvm.LawKit.callS X3 hx (y := (⟨"java/lang/StringLatin1", "toBytes", "(C)[B"⟩ : MethodName)) hown (mvT hZ (hw _ (List.mem_of_getElem? (i := 65) rfl))) (mvT hZ (hw _ (List.mem_of_getElem? (i := 66) rfl))) (mvT hZ (hw _ (List.mem_of_getElem? (i := 62) rfl))) (mvT hZ (hw _ (List.mem_of_getElem? (i := 67) rfl))) (by decide) (backOf (W := 2) (rm11 l Z a0 hw [] p1 h3 n0 (Nat.le_trans Z0 E3.1) ) hZ (hw _ (List.mem_of_getElem? (i := 67) rfl)) (hw _ (List.mem_of_getElem? (i := 62) rfl)) (by decide) (by decide)) (g := (mkF m 18 #[.val (.int p1)] [(.int p1), (.ref b3), (.ref b3)])) rfl (by rw [hml]; rfl) (argsL := [(.int p1)]) (rest := [(.ref b3), (.ref b3)]) (lenOf pd9_1 rfl) rfl (by show 2 * 0 + _ ≤ _; exact Nat.le_of_eq rfl) (hb hby d9_18) (fun _ _ => ⟨rfl, e3, (by decide : 1 + 1 ≤ _), (by decide : 4 + 1 ≤ _)⟩)
  dsimp only [Pt.U, Pt.locs, Pt.cells, Pt.slots] at X4 l4 y4 z4 st4 hQ4
  subst l4 y4 z4
  obtain ⟨b5, rfl, N4q, K4⟩ := hQ4
  have N4 := Fr.app N2 N4q
  refine go1 st4 ?_
  show Go p.tables e below T4 (mkF m 21 #[.val (.int p1)] [(.ref b5), (.ref b3), (.ref b3)]) _
  refine go1 (fun _ => XS.iconst X4.here hx rfl (hb hby d9_21)) ?_
  show Go p.tables e below T4 (mkF m 22 #[.val (.int p1)] [(.int (0 : Int32)), (.ref b5), (.ref b3), (.ref b3)]) _
  obtain ⟨_, _, ⟨T6, L6, k6, n6⟩, -, X6, ⟨Lc6, hQ6, l6, y6, z6⟩, st6⟩ := X4.specialBack hx (y := (⟨"java/lang/String", "<init>", "([BB)V"⟩ : MethodName)) rfl hown (mvT hZ (hw _ (List.mem_of_getElem? (i := 68) rfl))) (mvT hZ (hw _ (List.mem_of_getElem? (i := 69) rfl))) (mvT hZ (hw _ (List.mem_of_getElem? (i := 71) rfl))) (by decide) (backOf (W := 1) (rm12 l Z a0 hw [] b3 b5 T4.heap n0 (Nat.le_trans (Nat.le_trans Z0 E3.1) K4.1) (F_value_b3.keep K4 nin0) (F_coder_b3.keep K4 nin0) (A3.keep K4) g_b3) hZ (hw _ (List.mem_of_getElem? (i := 71) rfl)) (hw _ (List.mem_of_getElem? (i := 5) rfl)) (by decide) (by decide)) (g := (mkF m 22 #[.val (.int p1)] [(.int (0 : Int32)), (.ref b5), (.ref b3), (.ref b3)])) rfl (by rw [hml]; rfl) (Steps.refl _) (a := b3) (argsL := [(.ref b5), (.int (0 : Int32))]) (rest := [(.ref b3)]) (lenOf pd9_2 rfl) rfl (by show 2 * 0 + _ ≤ _; exact Nat.le_of_eq rfl) (hb hby d9_22) (fun _ _ => ⟨rfl, rfl, (by decide : 2 + 0 ≤ _), (by decide : 5 + 0 ≤ _)⟩)
  dsimp only [Pt.U, Pt.locs, Pt.cells, Pt.slots] at X6 l6 y6 z6 st6 hQ6
  subst l6 y6 z6
  obtain ⟨rfl, N6q, K6, G6_0⟩ := hQ6
  have N6 := Fr.app N4 N6q
  refine goT st6 ?_
  show Go p.tables e below T6 (mkF m 25 #[.val (.int p1)] [(.ref b3)]) _
  refine goR X6 (BodyLoose.notSynchronized Bd) (v := (some (.ref b3))) (fun h => by rw [Bd.returns] at h; cases h) (Q9 Z p1 a_COMPACT_STRINGS h0 n0) (fun fs hr => retOut X6 hx (t := (.object "java/lang/String")) (w := (.ref b3)) Bd.returns rfl (Or.inr (Or.inr (Or.inr (Or.inr ⟨rfl, rfl, rfl⟩)))) (hb hby d9_25) hr) (by decide) (by decide) ?_
  show Q9 Z p1 a_COMPACT_STRINGS h0 n0 _ T6.heap _
  exact ⟨b3, rfl, N6, ((((Keep.refl h0 []).ext E3).trans K4 all0).trans K6 (allS (Or.inr (Nat.le_trans (Nat.le_refl h0.size) (Nat.le_of_eq g3.symm))) all0))⟩
theorem d16_0 : decode jdk_52_method_21_code 0 = .ok (.iconst 0, 1) := by decide +kernel
theorem d16_1 : decode jdk_52_method_21_code 1 = .ok (.istore 5, 2) := by decide +kernel
theorem d16_3 : decode jdk_52_method_21_code 3 = .ok (.iload 5, 2) := by decide +kernel
theorem d16_5 : decode jdk_52_method_21_code 5 = .ok (.iload 4, 2) := by decide +kernel
theorem d16_7 : decode jdk_52_method_21_code 7 = .ok (.if_icmp .ge 37, 3) := by decide +kernel
theorem d16_10 : decode jdk_52_method_21_code 10 = .ok (.aload_n 0, 1) := by decide +kernel
theorem d16_11 : decode jdk_52_method_21_code 11 = .ok (.iload_n 1, 1) := by decide +kernel
theorem d16_12 : decode jdk_52_method_21_code 12 = .ok (.caload, 1) := by decide +kernel
theorem d16_13 : decode jdk_52_method_21_code 13 = .ok (.istore 6, 2) := by decide +kernel
theorem d16_15 : decode jdk_52_method_21_code 15 = .ok (.iload 6, 2) := by decide +kernel
theorem d16_17 : decode jdk_52_method_21_code 17 = .ok (.sipush 255, 3) := by decide +kernel
theorem d16_20 : decode jdk_52_method_21_code 20 = .ok (.if_icmp .le 6, 3) := by decide +kernel
theorem d16_26 : decode jdk_52_method_21_code 26 = .ok (.aload_n 2, 1) := by decide +kernel
theorem d16_27 : decode jdk_52_method_21_code 27 = .ok (.iload_n 3, 1) := by decide +kernel
theorem d16_28 : decode jdk_52_method_21_code 28 = .ok (.iload 6, 2) := by decide +kernel
theorem d16_30 : decode jdk_52_method_21_code 30 = .ok (.i2b, 1) := by decide +kernel
theorem d16_31 : decode jdk_52_method_21_code 31 = .ok (.bastore, 1) := by decide +kernel
theorem d16_32 : decode jdk_52_method_21_code 32 = .ok (.iinc 1 1, 3) := by decide +kernel
theorem d16_35 : decode jdk_52_method_21_code 35 = .ok (.iinc 3 1, 3) := by decide +kernel
theorem d16_38 : decode jdk_52_method_21_code 38 = .ok (.iinc 5 1, 3) := by decide +kernel
theorem d16_41 : decode jdk_52_method_21_code 41 = .ok (.goto (-38), 3) := by decide +kernel
theorem d16_44 : decode jdk_52_method_21_code 44 = .ok (.iload 4, 2) := by decide +kernel
theorem d16_46 : decode jdk_52_method_21_code 46 = .ok (.ireturn, 1) := by decide +kernel
theorem pn_16 : plainName "java/lang/StringUTF16" = true := by first | (simp [plainName, overriddenIn]; done) | decide +kernel
theorem ef_16 (m : MethodId) (a1 : Addr) (b1 : Addr) : entryFrame m #[(.ref a1), (.int (0 : Int32)), (.ref b1), (.int (0 : Int32)), (.int (2 : Int32))] 7 = mkF m 0 #[.val (.ref a1), .val (.int (0 : Int32)), .val (.ref b1), .val (.int (0 : Int32)), .val (.int (2 : Int32)), .unset, .unset] [] := by first | (simp [entryFrame, mkF, argsToLocals, Value.category]; done) | rfl
def Q16 (Z : State) (a1 : Addr) (b1 : Addr) (ka : ClassId) (kb : ClassId) (v0 : Int32) (v1 : Int32) (h0 : Heap) (n0 : Nat) (v : Option Value) (h : Heap) (L : List Loc) : Prop := ∃ (vs : List Value), v = some (.int (2 : Int32)) ∧ Fr n0 L ∧ Keep h0 h [b1] ∧ Arv Z h b1 kb .byte (2 : Int32) vs (.int 0)
set_option maxRecDepth 65536 in
set_option maxHeartbeats 40000000 in
theorem rm16 (l : Launch) (Z : State) (a0 : Array Value) (hw : ∀ d ∈ tables_1, d.before a0 Z = true) (ws : List Jvm.Cond) (a1 : Addr) (b1 : Addr) (ka : ClassId) (kb : ClassId) (v0 : Int32) (v1 : Int32) (h0 : Heap) (n0 : Nat) (Z0 : n0 ≤ h0.size) (V_a1 : Arv Z h0 a1 ka .char (2 : Int32) [.int v0, .int v1] (.int 0)) (V_b1 : Arv Z h0 b1 kb .byte (2 : Int32) [.int 0, .int 0] (.int 0)) (g_b1 : n0 ≤ b1) (hne : a1 ≠ b1) (h0v : ¬ ((255 : Int32) < v0)) (h1v : ¬ ((255 : Int32) < v1)) :
    MetFree l (⟨"java/lang/StringUTF16", "compress", "([CI[BII)I"⟩ : MethodName) (head1 (Jvm.Cond.code (⟨"java/lang/StringUTF16", "compress", "([CI[BII)I"⟩ : MethodName) jdk_52_method_21_code 7 (some .int) :: ws) ({ frames := 0, cells := 0, slots := 0, locals := 0 } : Room)) (fun a U => a = #[(.ref a1), (.int (0 : Int32)), (.ref b1), (.int (0 : Int32)), (.int (2 : Int32))] ∧ Z.Warmed39 U.vm ∧ U.heap = h0) (fun _ _ _ _ _ => True) (fun _ U o U' => ∃ v L, o = .returned v ∧ Q16 Z a1 b1 ka kb v0 v1 h0 n0 v U'.heap L ∧ FrameEnd U o U' L ({ frames := 0, cells := 0, slots := 0, locals := 0 } : Room).cells ({ frames := 0, cells := 0, slots := 0, locals := 0 } : Room).slots) := by
  refine MetFree.of_bodySF (plainFor_of_name pn_16) hisR ?_
  intro p e s m args below meth c s₁ Bd hml0 hP hK
  obtain ⟨rfl, hZ, hh⟩ := hP
  have hx := Bd.exec
  have hby := Bd.bytes
  have hml : c.maxLocals = 7 := hml0
  have hown : s.vm.findClass "java/lang/StringUTF16" = some m.cls := findClass_of_methodNamed Bd.named
  have hnm := (name_of_methodNamed Bd.named Bd.method).1
  have X0 : Stand p l e ({ frames := 0, cells := 0, slots := 0, locals := 0 } : Room) s m #[(.ref a1), (.int (0 : Int32)), (.ref b1), (.int (0 : Int32)), (.int (2 : Int32))] below meth c s₁ [] 0 0 := Stand.of_body Bd
  have e0 : s₁.heap = h0 := by rw [← hh, Bd.state]; rfl
  have N0 := Fr.nil n0
  refine goB (ef_16 m a1 b1) ?_
  show Go p.tables e below s₁ (mkF m 0 #[.val (.ref a1), .val (.int (0 : Int32)), .val (.ref b1), .val (.int (0 : Int32)), .val (.int (2 : Int32)), .unset, .unset] []) _
  refine go1 (fun _ => XS.iconst X0.here hx rfl (hb hby d16_0)) ?_
  show Go p.tables e below s₁ (mkF m 1 #[.val (.ref a1), .val (.int (0 : Int32)), .val (.ref b1), .val (.int (0 : Int32)), .val (.int (2 : Int32)), .unset, .unset] [(.int (0 : Int32))]) _
  refine go1 (fun _ => XS.istore X0.here hx rfl (hb hby d16_1) rfl (l' := #[.val (.ref a1), .val (.int (0 : Int32)), .val (.ref b1), .val (.int (0 : Int32)), .val (.int (2 : Int32)), .val (.int (0 : Int32)), .unset]) rfl) ?_
  show Go p.tables e below s₁ (mkF m 3 #[.val (.ref a1), .val (.int (0 : Int32)), .val (.ref b1), .val (.int (0 : Int32)), .val (.int (2 : Int32)), .val (.int (0 : Int32)), .unset] []) _
  refine go1 (fun _ => XS.iload X0.here hx rfl (hb hby d16_3) rfl) ?_
  show Go p.tables e below s₁ (mkF m 5 #[.val (.ref a1), .val (.int (0 : Int32)), .val (.ref b1), .val (.int (0 : Int32)), .val (.int (2 : Int32)), .val (.int (0 : Int32)), .unset] [(.int (0 : Int32))]) _
  refine go1 (fun _ => XS.iload X0.here hx rfl (hb hby d16_5) rfl) ?_
  show Go p.tables e below s₁ (mkF m 7 #[.val (.ref a1), .val (.int (0 : Int32)), .val (.ref b1), .val (.int (0 : Int32)), .val (.int (2 : Int32)), .val (.int (0 : Int32)), .unset] [(.int (2 : Int32)), (.int (0 : Int32))]) _
  refine go1 (fun _ => XS.icmpNo X0.here hx rfl (hb hby d16_7) rfl (tlt (by decide : (0 : Int32) < (2 : Int32))).2.1) ?_
  show Go p.tables e below s₁ (mkF m 10 #[.val (.ref a1), .val (.int (0 : Int32)), .val (.ref b1), .val (.int (0 : Int32)), .val (.int (2 : Int32)), .val (.int (0 : Int32)), .unset] []) _
  refine go1 (fun _ => XS.aloadN X0.here hx rfl (hb hby d16_10) rfl rfl) ?_
  show Go p.tables e below s₁ (mkF m 11 #[.val (.ref a1), .val (.int (0 : Int32)), .val (.ref b1), .val (.int (0 : Int32)), .val (.int (2 : Int32)), .val (.int (0 : Int32)), .unset] [(.ref a1)]) _
  refine go1 (fun _ => XS.iloadN X0.here hx rfl (hb hby d16_11) rfl) ?_
  show Go p.tables e below s₁ (mkF m 12 #[.val (.ref a1), .val (.int (0 : Int32)), .val (.ref b1), .val (.int (0 : Int32)), .val (.int (2 : Int32)), .val (.int (0 : Int32)), .unset] [(.int (0 : Int32)), (.ref a1)]) _
  have vo1 := V_a1
  obtain ⟨cl1, Ar1, -, S1, M1, H1, -⟩ := vo1
  have hin1 := inb_of (j := (0 : Int32)) S1 ⟨by decide, by decide⟩
  have hat1 := H1.at hin1 (rfl : ([.int v0, .int v1] : List Value).getD _ (.int 0) = .int v0)
  refine go1 (X0.caload hx (j := (0 : Int32)) (v := (.int v0)) (by rw [e0]; exact Ar1.1) (State.isArrayOf_alike hZ.alike Ar1.2.1) Ar1.2.2 hin1 hat1 (g := (mkF m 12 #[.val (.ref a1), .val (.int (0 : Int32)), .val (.ref b1), .val (.int (0 : Int32)), .val (.int (2 : Int32)), .val (.int (0 : Int32)), .unset] [(.int (0 : Int32)), (.ref a1)])) rfl rfl (hb hby d16_12)) ?_
  show Go p.tables e below s₁ (mkF m 13 #[.val (.ref a1), .val (.int (0 : Int32)), .val (.ref b1), .val (.int (0 : Int32)), .val (.int (2 : Int32)), .val (.int (0 : Int32)), .unset] [(.int v0)]) _
  refine go1 (fun _ => XS.istore X0.here hx rfl (hb hby d16_13) rfl (l' := #[.val (.ref a1), .val (.int (0 : Int32)), .val (.ref b1), .val (.int (0 : Int32)), .val (.int (2 : Int32)), .val (.int (0 : Int32)), .val (.int v0)]) rfl) ?_
  show Go p.tables e below s₁ (mkF m 15 #[.val (.ref a1), .val (.int (0 : Int32)), .val (.ref b1), .val (.int (0 : Int32)), .val (.int (2 : Int32)), .val (.int (0 : Int32)), .val (.int v0)] []) _
  refine go1 (fun _ => XS.iload X0.here hx rfl (hb hby d16_15) rfl) ?_
  show Go p.tables e below s₁ (mkF m 17 #[.val (.ref a1), .val (.int (0 : Int32)), .val (.ref b1), .val (.int (0 : Int32)), .val (.int (2 : Int32)), .val (.int (0 : Int32)), .val (.int v0)] [(.int v0)]) _
  refine go1 (fun _ => XS.sipush X0.here hx rfl (hb hby d16_17)) ?_
  show Go p.tables e below s₁ (mkF m 20 #[.val (.ref a1), .val (.int (0 : Int32)), .val (.ref b1), .val (.int (0 : Int32)), .val (.int (2 : Int32)), .val (.int (0 : Int32)), .val (.int v0)] [(.int (255 : Int32)), (.int v0)]) _
  refine go1 (fun _ => XS.icmpYes X0.here hx rfl (pc0 := 20) (pc' := 26) rfl (hb hby d16_20) rfl (flt h0v).2.2.2 (by decide) (by decide)) ?_
  show Go p.tables e below s₁ (mkF m 26 #[.val (.ref a1), .val (.int (0 : Int32)), .val (.ref b1), .val (.int (0 : Int32)), .val (.int (2 : Int32)), .val (.int (0 : Int32)), .val (.int v0)] []) _
  refine go1 (fun _ => XS.aloadN X0.here hx rfl (hb hby d16_26) rfl rfl) ?_
  show Go p.tables e below s₁ (mkF m 27 #[.val (.ref a1), .val (.int (0 : Int32)), .val (.ref b1), .val (.int (0 : Int32)), .val (.int (2 : Int32)), .val (.int (0 : Int32)), .val (.int v0)] [(.ref b1)]) _
  refine go1 (fun _ => XS.iloadN X0.here hx rfl (hb hby d16_27) rfl) ?_
  show Go p.tables e below s₁ (mkF m 28 #[.val (.ref a1), .val (.int (0 : Int32)), .val (.ref b1), .val (.int (0 : Int32)), .val (.int (2 : Int32)), .val (.int (0 : Int32)), .val (.int v0)] [(.int (0 : Int32)), (.ref b1)]) _
  refine go1 (fun _ => XS.iload X0.here hx rfl (hb hby d16_28) rfl) ?_
  show Go p.tables e below s₁ (mkF m 30 #[.val (.ref a1), .val (.int (0 : Int32)), .val (.ref b1), .val (.int (0 : Int32)), .val (.int (2 : Int32)), .val (.int (0 : Int32)), .val (.int v0)] [(.int v0), (.int (0 : Int32)), (.ref b1)]) _
  refine go1 (fun _ => XS.i2b X0.here hx rfl (hb hby d16_30) rfl) ?_
  show Go p.tables e below s₁ (mkF m 31 #[.val (.ref a1), .val (.int (0 : Int32)), .val (.ref b1), .val (.int (0 : Int32)), .val (.int (2 : Int32)), .val (.int (0 : Int32)), .val (.int v0)] [(.int (v0.toInt8.toInt32)), (.int (0 : Int32)), (.ref b1)]) _
  have vo2 := V_b1
  obtain ⟨cl2, Ar2, q2, S2, M2, H2, G2⟩ := vo2
  have hin2 := inb_of (j := (0 : Int32)) S2 ⟨by decide, by decide⟩
  obtain ⟨T2, h2, X2, e2, W2, st2⟩ := stB X0 hx hZ e0 Ar2 (j := (0 : Int32)) hin2 (g := (mkF m 31 #[.val (.ref a1), .val (.int (0 : Int32)), .val (.ref b1), .val (.int (0 : Int32)), .val (.int (2 : Int32)), .val (.int (0 : Int32)), .val (.int v0)] [(.int (v0.toInt8.toInt32)), (.int (0 : Int32)), (.ref b1)])) rfl rfl (hb hby d16_31)
  refine go1 st2 ?_
  have N2 := Fr.snoc X2 N0 g_b1
  have V2 : Arv Z h2 b1 kb .byte (2 : Int32) ([.int 0, .int 0].set 0 (.int (nar .byte (v0.toInt8.toInt32)))) (.int 0) := Arv.set Ar2 q2 S2 M2 H2 G2 (fits_nar_byte _) W2 0 rfl (by simp)
  show Go p.tables e below T2 (mkF m 32 #[.val (.ref a1), .val (.int (0 : Int32)), .val (.ref b1), .val (.int (0 : Int32)), .val (.int (2 : Int32)), .val (.int (0 : Int32)), .val (.int v0)] []) _
  refine go1 (fun _ => XS.iinc X2.here hx rfl (hb hby d16_32) rfl (l' := #[.val (.ref a1), .val (.int (1 : Int32)), .val (.ref b1), .val (.int (0 : Int32)), .val (.int (2 : Int32)), .val (.int (0 : Int32)), .val (.int v0)]) rfl) ?_
  show Go p.tables e below T2 (mkF m 35 #[.val (.ref a1), .val (.int (1 : Int32)), .val (.ref b1), .val (.int (0 : Int32)), .val (.int (2 : Int32)), .val (.int (0 : Int32)), .val (.int v0)] []) _
  refine go1 (fun _ => XS.iinc X2.here hx rfl (hb hby d16_35) rfl (l' := #[.val (.ref a1), .val (.int (1 : Int32)), .val (.ref b1), .val (.int (1 : Int32)), .val (.int (2 : Int32)), .val (.int (0 : Int32)), .val (.int v0)]) rfl) ?_
  show Go p.tables e below T2 (mkF m 38 #[.val (.ref a1), .val (.int (1 : Int32)), .val (.ref b1), .val (.int (1 : Int32)), .val (.int (2 : Int32)), .val (.int (0 : Int32)), .val (.int v0)] []) _
  refine go1 (fun _ => XS.iinc X2.here hx rfl (hb hby d16_38) rfl (l' := #[.val (.ref a1), .val (.int (1 : Int32)), .val (.ref b1), .val (.int (1 : Int32)), .val (.int (2 : Int32)), .val (.int (1 : Int32)), .val (.int v0)]) rfl) ?_
  show Go p.tables e below T2 (mkF m 41 #[.val (.ref a1), .val (.int (1 : Int32)), .val (.ref b1), .val (.int (1 : Int32)), .val (.int (2 : Int32)), .val (.int (1 : Int32)), .val (.int v0)] []) _
  refine go1 (fun _ => XS.goto X2.here hx rfl (pc0 := 41) (pc' := 3) rfl (hb hby d16_41) (by decide) (by decide)) ?_
  show Go p.tables e below T2 (mkF m 3 #[.val (.ref a1), .val (.int (1 : Int32)), .val (.ref b1), .val (.int (1 : Int32)), .val (.int (2 : Int32)), .val (.int (1 : Int32)), .val (.int v0)] []) _
  refine go1 (fun _ => XS.iload X2.here hx rfl (hb hby d16_3) rfl) ?_
  show Go p.tables e below T2 (mkF m 5 #[.val (.ref a1), .val (.int (1 : Int32)), .val (.ref b1), .val (.int (1 : Int32)), .val (.int (2 : Int32)), .val (.int (1 : Int32)), .val (.int v0)] [(.int (1 : Int32))]) _
  refine go1 (fun _ => XS.iload X2.here hx rfl (hb hby d16_5) rfl) ?_
  show Go p.tables e below T2 (mkF m 7 #[.val (.ref a1), .val (.int (1 : Int32)), .val (.ref b1), .val (.int (1 : Int32)), .val (.int (2 : Int32)), .val (.int (1 : Int32)), .val (.int v0)] [(.int (2 : Int32)), (.int (1 : Int32))]) _
  refine go1 (fun _ => XS.icmpNo X2.here hx rfl (hb hby d16_7) rfl (tlt (by decide : (1 : Int32) < (2 : Int32))).2.1) ?_
  show Go p.tables e below T2 (mkF m 10 #[.val (.ref a1), .val (.int (1 : Int32)), .val (.ref b1), .val (.int (1 : Int32)), .val (.int (2 : Int32)), .val (.int (1 : Int32)), .val (.int v0)] []) _
  refine go1 (fun _ => XS.aloadN X2.here hx rfl (hb hby d16_10) rfl rfl) ?_
  show Go p.tables e below T2 (mkF m 11 #[.val (.ref a1), .val (.int (1 : Int32)), .val (.ref b1), .val (.int (1 : Int32)), .val (.int (2 : Int32)), .val (.int (1 : Int32)), .val (.int v0)] [(.ref a1)]) _
  refine go1 (fun _ => XS.iloadN X2.here hx rfl (hb hby d16_11) rfl) ?_
  show Go p.tables e below T2 (mkF m 12 #[.val (.ref a1), .val (.int (1 : Int32)), .val (.ref b1), .val (.int (1 : Int32)), .val (.int (2 : Int32)), .val (.int (1 : Int32)), .val (.int v0)] [(.int (1 : Int32)), (.ref a1)]) _
  have vo3 := (V_a1.other W2 hne)
  obtain ⟨cl3, Ar3, -, S3, M3, H3, -⟩ := vo3
  have hin3 := inb_of (j := (1 : Int32)) S3 ⟨by decide, by decide⟩
  have hat3 := H3.at hin3 (rfl : ([.int v0, .int v1] : List Value).getD _ (.int 0) = .int v1)
  refine go1 (X2.caload hx (j := (1 : Int32)) (v := (.int v1)) (by rw [e2]; exact Ar3.1) (State.isArrayOf_alike hZ.alike Ar3.2.1) Ar3.2.2 hin3 hat3 (g := (mkF m 12 #[.val (.ref a1), .val (.int (1 : Int32)), .val (.ref b1), .val (.int (1 : Int32)), .val (.int (2 : Int32)), .val (.int (1 : Int32)), .val (.int v0)] [(.int (1 : Int32)), (.ref a1)])) rfl rfl (hb hby d16_12)) ?_
  show Go p.tables e below T2 (mkF m 13 #[.val (.ref a1), .val (.int (1 : Int32)), .val (.ref b1), .val (.int (1 : Int32)), .val (.int (2 : Int32)), .val (.int (1 : Int32)), .val (.int v0)] [(.int v1)]) _
  refine go1 (fun _ => XS.istore X2.here hx rfl (hb hby d16_13) rfl (l' := #[.val (.ref a1), .val (.int (1 : Int32)), .val (.ref b1), .val (.int (1 : Int32)), .val (.int (2 : Int32)), .val (.int (1 : Int32)), .val (.int v1)]) rfl) ?_
  show Go p.tables e below T2 (mkF m 15 #[.val (.ref a1), .val (.int (1 : Int32)), .val (.ref b1), .val (.int (1 : Int32)), .val (.int (2 : Int32)), .val (.int (1 : Int32)), .val (.int v1)] []) _
  refine go1 (fun _ => XS.iload X2.here hx rfl (hb hby d16_15) rfl) ?_
  show Go p.tables e below T2 (mkF m 17 #[.val (.ref a1), .val (.int (1 : Int32)), .val (.ref b1), .val (.int (1 : Int32)), .val (.int (2 : Int32)), .val (.int (1 : Int32)), .val (.int v1)] [(.int v1)]) _
  refine go1 (fun _ => XS.sipush X2.here hx rfl (hb hby d16_17)) ?_
  show Go p.tables e below T2 (mkF m 20 #[.val (.ref a1), .val (.int (1 : Int32)), .val (.ref b1), .val (.int (1 : Int32)), .val (.int (2 : Int32)), .val (.int (1 : Int32)), .val (.int v1)] [(.int (255 : Int32)), (.int v1)]) _
  refine go1 (fun _ => XS.icmpYes X2.here hx rfl (pc0 := 20) (pc' := 26) rfl (hb hby d16_20) rfl (flt h1v).2.2.2 (by decide) (by decide)) ?_
  show Go p.tables e below T2 (mkF m 26 #[.val (.ref a1), .val (.int (1 : Int32)), .val (.ref b1), .val (.int (1 : Int32)), .val (.int (2 : Int32)), .val (.int (1 : Int32)), .val (.int v1)] []) _
  refine go1 (fun _ => XS.aloadN X2.here hx rfl (hb hby d16_26) rfl rfl) ?_
  show Go p.tables e below T2 (mkF m 27 #[.val (.ref a1), .val (.int (1 : Int32)), .val (.ref b1), .val (.int (1 : Int32)), .val (.int (2 : Int32)), .val (.int (1 : Int32)), .val (.int v1)] [(.ref b1)]) _
  refine go1 (fun _ => XS.iloadN X2.here hx rfl (hb hby d16_27) rfl) ?_
  show Go p.tables e below T2 (mkF m 28 #[.val (.ref a1), .val (.int (1 : Int32)), .val (.ref b1), .val (.int (1 : Int32)), .val (.int (2 : Int32)), .val (.int (1 : Int32)), .val (.int v1)] [(.int (1 : Int32)), (.ref b1)]) _
  refine go1 (fun _ => XS.iload X2.here hx rfl (hb hby d16_28) rfl) ?_
  show Go p.tables e below T2 (mkF m 30 #[.val (.ref a1), .val (.int (1 : Int32)), .val (.ref b1), .val (.int (1 : Int32)), .val (.int (2 : Int32)), .val (.int (1 : Int32)), .val (.int v1)] [(.int v1), (.int (1 : Int32)), (.ref b1)]) _
  refine go1 (fun _ => XS.i2b X2.here hx rfl (hb hby d16_30) rfl) ?_
  show Go p.tables e below T2 (mkF m 31 #[.val (.ref a1), .val (.int (1 : Int32)), .val (.ref b1), .val (.int (1 : Int32)), .val (.int (2 : Int32)), .val (.int (1 : Int32)), .val (.int v1)] [(.int (v1.toInt8.toInt32)), (.int (1 : Int32)), (.ref b1)]) _
  have vo4 := V2
  obtain ⟨cl4, Ar4, q4, S4, M4, H4, G4⟩ := vo4
  have hin4 := inb_of (j := (1 : Int32)) S4 ⟨by decide, by decide⟩
  obtain ⟨T4, h4, X4, e4, W4, st4⟩ := stB X2 hx hZ e2 Ar4 (j := (1 : Int32)) hin4 (g := (mkF m 31 #[.val (.ref a1), .val (.int (1 : Int32)), .val (.ref b1), .val (.int (1 : Int32)), .val (.int (2 : Int32)), .val (.int (1 : Int32)), .val (.int v1)] [(.int (v1.toInt8.toInt32)), (.int (1 : Int32)), (.ref b1)])) rfl rfl (hb hby d16_31)
  refine go1 st4 ?_
  have N4 := Fr.snoc X4 N2 g_b1
  have V4 : Arv Z h4 b1 kb .byte (2 : Int32) (([.int 0, .int 0].set 0 (.int (nar .byte (v0.toInt8.toInt32)))).set 1 (.int (nar .byte (v1.toInt8.toInt32)))) (.int 0) := Arv.set Ar4 q4 S4 M4 H4 G4 (fits_nar_byte _) W4 1 rfl (by simp)
  show Go p.tables e below T4 (mkF m 32 #[.val (.ref a1), .val (.int (1 : Int32)), .val (.ref b1), .val (.int (1 : Int32)), .val (.int (2 : Int32)), .val (.int (1 : Int32)), .val (.int v1)] []) _
  refine go1 (fun _ => XS.iinc X4.here hx rfl (hb hby d16_32) rfl (l' := #[.val (.ref a1), .val (.int (2 : Int32)), .val (.ref b1), .val (.int (1 : Int32)), .val (.int (2 : Int32)), .val (.int (1 : Int32)), .val (.int v1)]) rfl) ?_
  show Go p.tables e below T4 (mkF m 35 #[.val (.ref a1), .val (.int (2 : Int32)), .val (.ref b1), .val (.int (1 : Int32)), .val (.int (2 : Int32)), .val (.int (1 : Int32)), .val (.int v1)] []) _
  refine go1 (fun _ => XS.iinc X4.here hx rfl (hb hby d16_35) rfl (l' := #[.val (.ref a1), .val (.int (2 : Int32)), .val (.ref b1), .val (.int (2 : Int32)), .val (.int (2 : Int32)), .val (.int (1 : Int32)), .val (.int v1)]) rfl) ?_
  show Go p.tables e below T4 (mkF m 38 #[.val (.ref a1), .val (.int (2 : Int32)), .val (.ref b1), .val (.int (2 : Int32)), .val (.int (2 : Int32)), .val (.int (1 : Int32)), .val (.int v1)] []) _
  refine go1 (fun _ => XS.iinc X4.here hx rfl (hb hby d16_38) rfl (l' := #[.val (.ref a1), .val (.int (2 : Int32)), .val (.ref b1), .val (.int (2 : Int32)), .val (.int (2 : Int32)), .val (.int (2 : Int32)), .val (.int v1)]) rfl) ?_
  show Go p.tables e below T4 (mkF m 41 #[.val (.ref a1), .val (.int (2 : Int32)), .val (.ref b1), .val (.int (2 : Int32)), .val (.int (2 : Int32)), .val (.int (2 : Int32)), .val (.int v1)] []) _
  refine go1 (fun _ => XS.goto X4.here hx rfl (pc0 := 41) (pc' := 3) rfl (hb hby d16_41) (by decide) (by decide)) ?_
  show Go p.tables e below T4 (mkF m 3 #[.val (.ref a1), .val (.int (2 : Int32)), .val (.ref b1), .val (.int (2 : Int32)), .val (.int (2 : Int32)), .val (.int (2 : Int32)), .val (.int v1)] []) _
  refine go1 (fun _ => XS.iload X4.here hx rfl (hb hby d16_3) rfl) ?_
  show Go p.tables e below T4 (mkF m 5 #[.val (.ref a1), .val (.int (2 : Int32)), .val (.ref b1), .val (.int (2 : Int32)), .val (.int (2 : Int32)), .val (.int (2 : Int32)), .val (.int v1)] [(.int (2 : Int32))]) _
  refine go1 (fun _ => XS.iload X4.here hx rfl (hb hby d16_5) rfl) ?_
  show Go p.tables e below T4 (mkF m 7 #[.val (.ref a1), .val (.int (2 : Int32)), .val (.ref b1), .val (.int (2 : Int32)), .val (.int (2 : Int32)), .val (.int (2 : Int32)), .val (.int v1)] [(.int (2 : Int32)), (.int (2 : Int32))]) _
  refine go1 (fun _ => XS.icmpYes X4.here hx rfl (pc0 := 7) (pc' := 44) rfl (hb hby d16_7) rfl (flt (by decide : ¬ ((2 : Int32) < (2 : Int32)))).2.1 (by decide) (by decide)) ?_
  show Go p.tables e below T4 (mkF m 44 #[.val (.ref a1), .val (.int (2 : Int32)), .val (.ref b1), .val (.int (2 : Int32)), .val (.int (2 : Int32)), .val (.int (2 : Int32)), .val (.int v1)] []) _
  refine go1 (fun _ => XS.iload X4.here hx rfl (hb hby d16_44) rfl) ?_
  show Go p.tables e below T4 (mkF m 46 #[.val (.ref a1), .val (.int (2 : Int32)), .val (.ref b1), .val (.int (2 : Int32)), .val (.int (2 : Int32)), .val (.int (2 : Int32)), .val (.int v1)] [(.int (2 : Int32))]) _
  refine goR X4 (BodyLoose.notSynchronized Bd) (v := (some (.int (2 : Int32)))) (fun h => by rw [Bd.returns] at h; cases h) (Q16 Z a1 b1 ka kb v0 v1 h0 n0) (fun fs hr => retI X4 hx Bd.returns (hb hby d16_46) hr) (by decide) (by decide) ?_
  show Q16 Z a1 b1 ka kb v0 v1 h0 n0 _ T4.heap _
  rw [e4]
  exact ⟨(([.int 0, .int 0].set 0 (.int (nar .byte (v0.toInt8.toInt32)))).set 1 (.int (nar .byte (v1.toInt8.toInt32)))), rfl, N4, (((Keep.refl h0 [b1]).wr W2 (Or.inl (List.mem_of_getElem? (i := 0) rfl))).wr W4 (Or.inl (List.mem_of_getElem? (i := 0) rfl))), V4⟩
theorem d15_0 : decode jdk_52_method_16_code 0 = .ok (.iload_n 2, 1) := by decide +kernel
theorem d15_1 : decode jdk_52_method_16_code 1 = .ok (.newarray .byte, 2) := by decide +kernel
theorem d15_3 : decode jdk_52_method_16_code 3 = .ok (.astore_n 3, 1) := by decide +kernel
theorem d15_4 : decode jdk_52_method_16_code 4 = .ok (.aload_n 0, 1) := by decide +kernel
theorem d15_5 : decode jdk_52_method_16_code 5 = .ok (.iload_n 1, 1) := by decide +kernel
theorem d15_6 : decode jdk_52_method_16_code 6 = .ok (.aload_n 3, 1) := by decide +kernel
theorem d15_7 : decode jdk_52_method_16_code 7 = .ok (.iconst 0, 1) := by decide +kernel
theorem d15_8 : decode jdk_52_method_16_code 8 = .ok (.iload_n 2, 1) := by decide +kernel
theorem d15_9 : decode jdk_52_method_16_code 9 = .ok (.invokestatic 115, 3) := by decide +kernel
theorem d15_12 : decode jdk_52_method_16_code 12 = .ok (.istore 4, 2) := by decide +kernel
theorem d15_14 : decode jdk_52_method_16_code 14 = .ok (.iload 4, 2) := by decide +kernel
theorem d15_16 : decode jdk_52_method_16_code 16 = .ok (.iload_n 2, 1) := by decide +kernel
theorem d15_17 : decode jdk_52_method_16_code 17 = .ok (.if_icmp .eq 40, 3) := by decide +kernel
theorem d15_57 : decode jdk_52_method_16_code 57 = .ok (.aload_n 3, 1) := by decide +kernel
theorem d15_58 : decode jdk_52_method_16_code 58 = .ok (.areturn, 1) := by decide +kernel
theorem pn_15 : plainName "java/lang/StringUTF16" = true := by first | (simp [plainName, overriddenIn]; done) | decide +kernel
theorem pd15_0 : parseMethodDescriptor "([CI[BII)I" = some ⟨[(.array .char), .int, (.array .byte), .int, .int], some .int⟩ := by decide +kernel
theorem ef_15 (m : MethodId) (a1 : Addr) : entryFrame m #[(.ref a1), (.int (0 : Int32)), (.int (2 : Int32))] 6 = mkF m 0 #[.val (.ref a1), .val (.int (0 : Int32)), .val (.int (2 : Int32)), .unset, .unset, .unset] [] := by first | (simp [entryFrame, mkF, argsToLocals, Value.category]; done) | rfl
def Q15 (Z : State) (a1 : Addr) (ka : ClassId) (v0 : Int32) (v1 : Int32) (h0 : Heap) (n0 : Nat) (v : Option Value) (h : Heap) (L : List Loc) : Prop := ∃ (b : Addr) (kb : ClassId) (vs : List Value), v = some (.ref b) ∧ Fr n0 L ∧ Keep h0 h [] ∧ n0 ≤ b ∧ h0.size ≤ b ∧ Arv Z h b kb .byte (2 : Int32) vs (.int 0)
set_option maxRecDepth 65536 in
set_option maxHeartbeats 40000000 in
theorem rm15 (l : Launch) (Z : State) (a0 : Array Value) (hw : ∀ d ∈ tables_1, d.before a0 Z = true) (ws : List Jvm.Cond) (a1 : Addr) (ka : ClassId) (v0 : Int32) (v1 : Int32) (h0 : Heap) (n0 : Nat) (Z0 : n0 ≤ h0.size) (V_a1 : Arv Z h0 a1 ka .char (2 : Int32) [.int v0, .int v1] (.int 0)) (h0v : ¬ ((255 : Int32) < v0)) (h1v : ¬ ((255 : Int32) < v1)) :
    MetFree l (⟨"java/lang/StringUTF16", "compress", "([CII)[B"⟩ : MethodName) (head1 (Jvm.Cond.code (⟨"java/lang/StringUTF16", "compress", "([CII)[B"⟩ : MethodName) jdk_52_method_16_code 6 (some (.array .byte)) :: ws) ({ frames := 1, cells := 1, slots := 2, locals := 18 } : Room)) (fun a U => a = #[(.ref a1), (.int (0 : Int32)), (.int (2 : Int32))] ∧ Z.Warmed39 U.vm ∧ U.heap = h0) (fun _ _ _ _ _ => True) (fun _ U o U' => ∃ v L, o = .returned v ∧ Q15 Z a1 ka v0 v1 h0 n0 v U'.heap L ∧ FrameEnd U o U' L ({ frames := 1, cells := 1, slots := 2, locals := 18 } : Room).cells ({ frames := 1, cells := 1, slots := 2, locals := 18 } : Room).slots) := by
  refine MetFree.of_bodySF (plainFor_of_name pn_15) hisR ?_
  intro p e s m args below meth c s₁ Bd hml0 hP hK
  obtain ⟨rfl, hZ, hh⟩ := hP
  have hx := Bd.exec
  have hby := Bd.bytes
  have hml : c.maxLocals = 6 := hml0
  have hown : s.vm.findClass "java/lang/StringUTF16" = some m.cls := findClass_of_methodNamed Bd.named
  have hnm := (name_of_methodNamed Bd.named Bd.method).1
  have X0 : Stand p l e ({ frames := 1, cells := 1, slots := 2, locals := 18 } : Room) s m #[(.ref a1), (.int (0 : Int32)), (.int (2 : Int32))] below meth c s₁ [] 0 0 := Stand.of_body Bd
  have e0 : s₁.heap = h0 := by rw [← hh, Bd.state]; rfl
  have N0 := Fr.nil n0
  refine goB (ef_15 m a1) ?_
  show Go p.tables e below s₁ (mkF m 0 #[.val (.ref a1), .val (.int (0 : Int32)), .val (.int (2 : Int32)), .unset, .unset, .unset] []) _
  refine go1 (fun _ => XS.iloadN X0.here hx rfl (hb hby d15_0) rfl) ?_
  show Go p.tables e below s₁ (mkF m 1 #[.val (.ref a1), .val (.int (0 : Int32)), .val (.int (2 : Int32)), .unset, .unset, .unset] [(.int (2 : Int32))]) _
  obtain ⟨T1, h1, k1, X1, e1, E1, A1, st1⟩ := newP X0 hx hZ (hw _ (List.mem_of_getElem? (i := 7) rfl)) e0 (g := (mkF m 1 #[.val (.ref a1), .val (.int (0 : Int32)), .val (.int (2 : Int32)), .unset, .unset, .unset] [(.int (2 : Int32))])) rfl (hb hby d15_1) rfl (by decide) (cap := 2) (by decide) (by decide) (by decide) (by decide)
  obtain ⟨b1, g1⟩ : ∃ z, z = h0.size := ⟨_, rfl⟩
  rw [← g1] at A1 st1
  have g_b1 : n0 ≤ b1 := Nat.le_trans Z0 (Nat.le_of_eq g1.symm)
  have V_b1 : Arv Z h1 b1 k1 .byte (2 : Int32) [] (.int 0) := Arv.new A1 (by decide)
  refine go1 st1 ?_
  show Go p.tables e below T1 (mkF m 3 #[.val (.ref a1), .val (.int (0 : Int32)), .val (.int (2 : Int32)), .unset, .unset, .unset] [(.ref b1)]) _
  refine go1 (fun _ => XS.astoreN X1.here hx rfl (hb hby d15_3) rfl rfl (l' := #[.val (.ref a1), .val (.int (0 : Int32)), .val (.int (2 : Int32)), .val (.ref b1), .unset, .unset]) rfl) ?_
  show Go p.tables e below T1 (mkF m 4 #[.val (.ref a1), .val (.int (0 : Int32)), .val (.int (2 : Int32)), .val (.ref b1), .unset, .unset] []) _
  have Vp1 : Arv Z h1 b1 k1 .byte (2 : Int32) [.int 0, .int 0] (.int 0) := V_b1.pad (pad_rep [] (.int 0) 2)
  refine go1 (fun _ => XS.aloadN X1.here hx rfl (hb hby d15_4) rfl rfl) ?_
  show Go p.tables e below T1 (mkF m 5 #[.val (.ref a1), .val (.int (0 : Int32)), .val (.int (2 : Int32)), .val (.ref b1), .unset, .unset] [(.ref a1)]) _
  refine go1 (fun _ => XS.iloadN X1.here hx rfl (hb hby d15_5) rfl) ?_
  show Go p.tables e below T1 (mkF m 6 #[.val (.ref a1), .val (.int (0 : Int32)), .val (.int (2 : Int32)), .val (.ref b1), .unset, .unset] [(.int (0 : Int32)), (.ref a1)]) _
  refine go1 (fun _ => XS.aloadN X1.here hx rfl (hb hby d15_6) rfl rfl) ?_
  show Go p.tables e below T1 (mkF m 7 #[.val (.ref a1), .val (.int (0 : Int32)), .val (.int (2 : Int32)), .val (.ref b1), .unset, .unset] [(.ref b1), (.int (0 : Int32)), (.ref a1)]) _
  refine go1 (fun _ => XS.iconst X1.here hx rfl (hb hby d15_7)) ?_
  show Go p.tables e below T1 (mkF m 8 #[.val (.ref a1), .val (.int (0 : Int32)), .val (.int (2 : Int32)), .val (.ref b1), .unset, .unset] [(.int (0 : Int32)), (.ref b1), (.int (0 : Int32)), (.ref a1)]) _
  refine go1 (fun _ => XS.iloadN X1.here hx rfl (hb hby d15_8) rfl) ?_
  show Go p.tables e below T1 (mkF m 9 #[.val (.ref a1), .val (.int (0 : Int32)), .val (.int (2 : Int32)), .val (.ref b1), .unset, .unset] [(.int (2 : Int32)), (.int (0 : Int32)), (.ref b1), (.int (0 : Int32)), (.ref a1)]) _
  obtain ⟨_, _, ⟨T2, L2, k2, n2⟩, -, X2, ⟨Lc2, hQ2, l2, y2, z2⟩, st2⟩ := Jvm.LawKit.callS X1 hx (y := (⟨"java/lang/StringUTF16", "compress", "([CI[BII)I"⟩ : MethodName)) hown (mvT hZ (hw _ (List.mem_of_getElem? (i := 87) rfl))) (mvT hZ (hw _ (List.mem_of_getElem? (i := 88) rfl))) (mvT hZ (hw _ (List.mem_of_getElem? (i := 85) rfl))) (mvT hZ (hw _ (List.mem_of_getElem? (i := 89) rfl))) (by decide) (backOf (W := 0) (rm16 l Z a0 hw [] a1 b1 ka k1 v0 v1 h1 n0 (Nat.le_trans Z0 E1.1) (V_a1.ext E1) Vp1 g_b1 (Nat.ne_of_lt (Nat.lt_of_lt_of_le V_a1.lt (Nat.le_of_eq g1.symm))) h0v h1v) hZ (hw _ (List.mem_of_getElem? (i := 89) rfl)) (hw _ (List.mem_of_getElem? (i := 85) rfl)) (by decide) (by decide)) (g := (mkF m 9 #[.val (.ref a1), .val (.int (0 : Int32)), .val (.int (2 : Int32)), .val (.ref b1), .unset, .unset] [(.int (2 : Int32)), (.int (0 : Int32)), (.ref b1), (.int (0 : Int32)), (.ref a1)])) rfl (by rw [hml]; rfl) (argsL := [(.ref a1), (.int (0 : Int32)), (.ref b1), (.int (0 : Int32)), (.int (2 : Int32))]) (rest := []) (lenOf pd15_0 rfl) rfl (by show 2 * 0 + _ ≤ _; exact Nat.le_of_eq rfl) (hb hby d15_9) (fun _ _ => ⟨rfl, e1, (by decide : 1 + 0 ≤ _), (by decide : 2 + 0 ≤ _)⟩)
  dsimp only [Pt.U, Pt.locs, Pt.cells, Pt.slots] at X2 l2 y2 z2 st2 hQ2
  subst l2 y2 z2
  obtain ⟨vs3, rfl, N2q, K2, G2_0⟩ := hQ2
  have N2 := Fr.app N0 N2q
  refine go1 st2 ?_
  show Go p.tables e below T2 (mkF m 12 #[.val (.ref a1), .val (.int (0 : Int32)), .val (.int (2 : Int32)), .val (.ref b1), .unset, .unset] [(.int (2 : Int32))]) _
  refine go1 (fun _ => XS.istore X2.here hx rfl (hb hby d15_12) rfl (l' := #[.val (.ref a1), .val (.int (0 : Int32)), .val (.int (2 : Int32)), .val (.ref b1), .val (.int (2 : Int32)), .unset]) rfl) ?_
  show Go p.tables e below T2 (mkF m 14 #[.val (.ref a1), .val (.int (0 : Int32)), .val (.int (2 : Int32)), .val (.ref b1), .val (.int (2 : Int32)), .unset] []) _
  refine go1 (fun _ => XS.iload X2.here hx rfl (hb hby d15_14) rfl) ?_
  show Go p.tables e below T2 (mkF m 16 #[.val (.ref a1), .val (.int (0 : Int32)), .val (.int (2 : Int32)), .val (.ref b1), .val (.int (2 : Int32)), .unset] [(.int (2 : Int32))]) _
  refine go1 (fun _ => XS.iloadN X2.here hx rfl (hb hby d15_16) rfl) ?_
  show Go p.tables e below T2 (mkF m 17 #[.val (.ref a1), .val (.int (0 : Int32)), .val (.int (2 : Int32)), .val (.ref b1), .val (.int (2 : Int32)), .unset] [(.int (2 : Int32)), (.int (2 : Int32))]) _
  refine go1 (fun _ => XS.icmpYes X2.here hx rfl (pc0 := 17) (pc' := 57) rfl (hb hby d15_17) rfl (teq (by decide : (2 : Int32) = (2 : Int32))).1 (by decide) (by decide)) ?_
  show Go p.tables e below T2 (mkF m 57 #[.val (.ref a1), .val (.int (0 : Int32)), .val (.int (2 : Int32)), .val (.ref b1), .val (.int (2 : Int32)), .unset] []) _
  refine go1 (fun _ => XS.aloadN X2.here hx rfl (hb hby d15_57) rfl rfl) ?_
  show Go p.tables e below T2 (mkF m 58 #[.val (.ref a1), .val (.int (0 : Int32)), .val (.int (2 : Int32)), .val (.ref b1), .val (.int (2 : Int32)), .unset] [(.ref b1)]) _
  refine goR X2 (BodyLoose.notSynchronized Bd) (v := (some (.ref b1))) (fun h => by rw [Bd.returns] at h; cases h) (Q15 Z a1 ka v0 v1 h0 n0) (fun fs hr => retOut X2 hx (t := (.array .byte)) (w := (.ref b1)) Bd.returns rfl (Or.inr (Or.inr (Or.inr (Or.inr ⟨rfl, rfl, rfl⟩)))) (hb hby d15_58) hr) (by decide) (by decide) ?_
  show Q15 Z a1 ka v0 v1 h0 n0 _ T2.heap _
  exact ⟨b1, k1, vs3, rfl, N2, (((Keep.refl h0 []).ext E1).trans K2 (allS (Or.inr (Nat.le_trans (Nat.le_refl h0.size) (Nat.le_of_eq g1.symm))) all0)), g_b1, (Nat.le_trans (Nat.le_refl h0.size) (Nat.le_of_eq g1.symm)), G2_0⟩
theorem d17_0 : decode jdk_52_method_15_code 0 = .ok (.iload_n 1, 1) := by decide +kernel
theorem d17_1 : decode jdk_52_method_15_code 1 = .ok (.aload_n 0, 1) := by decide +kernel
theorem d17_2 : decode jdk_52_method_15_code 2 = .ok (.arraylength, 1) := by decide +kernel
theorem d17_3 : decode jdk_52_method_15_code 3 = .ok (.isub, 1) := by decide +kernel
theorem d17_4 : decode jdk_52_method_15_code 4 = .ok (.bipush 31, 2) := by decide +kernel
theorem d17_6 : decode jdk_52_method_15_code 6 = .ok (.iushr, 1) := by decide +kernel
theorem d17_7 : decode jdk_52_method_15_code 7 = .ok (.i2b, 1) := by decide +kernel
theorem d17_8 : decode jdk_52_method_15_code 8 = .ok (.ireturn, 1) := by decide +kernel
theorem pn_17 : plainName "java/lang/StringUTF16" = true := by first | (simp [plainName, overriddenIn]; done) | decide +kernel
theorem ef_17 (m : MethodId) (b1 : Addr) : entryFrame m #[(.ref b1), (.int (2 : Int32))] 2 = mkF m 0 #[.val (.ref b1), .val (.int (2 : Int32))] [] := by first | (simp [entryFrame, mkF, argsToLocals, Value.category]; done) | rfl
def Q17 (Z : State) (b1 : Addr) (kb : ClassId) (vs : List Value) (h0 : Heap) (n0 : Nat) (v : Option Value) (h : Heap) (L : List Loc) : Prop := v = some (.int (0 : Int32)) ∧ Fr n0 L ∧ h = h0
set_option maxRecDepth 65536 in
set_option maxHeartbeats 40000000 in
theorem rm17 (l : Launch) (Z : State) (a0 : Array Value) (hw : ∀ d ∈ tables_1, d.before a0 Z = true) (ws : List Jvm.Cond) (b1 : Addr) (kb : ClassId) (vs : List Value) (h0 : Heap) (n0 : Nat) (Z0 : n0 ≤ h0.size) (V_b1 : Arv Z h0 b1 kb .byte (2 : Int32) vs (.int 0)) :
    MetFree l (⟨"java/lang/StringUTF16", "coderFromArrayLen", "([BI)B"⟩ : MethodName) (head1 (Jvm.Cond.code (⟨"java/lang/StringUTF16", "coderFromArrayLen", "([BI)B"⟩ : MethodName) jdk_52_method_15_code 2 (some .byte) :: ws) ({ frames := 0, cells := 0, slots := 0, locals := 0 } : Room)) (fun a U => a = #[(.ref b1), (.int (2 : Int32))] ∧ Z.Warmed39 U.vm ∧ U.heap = h0) (fun _ _ _ _ _ => True) (fun _ U o U' => ∃ v L, o = .returned v ∧ Q17 Z b1 kb vs h0 n0 v U'.heap L ∧ FrameEnd U o U' L ({ frames := 0, cells := 0, slots := 0, locals := 0 } : Room).cells ({ frames := 0, cells := 0, slots := 0, locals := 0 } : Room).slots) := by
  refine MetFree.of_bodySF (plainFor_of_name pn_17) hisR ?_
  intro p e s m args below meth c s₁ Bd hml0 hP hK
  obtain ⟨rfl, hZ, hh⟩ := hP
  have hx := Bd.exec
  have hby := Bd.bytes
  have hml : c.maxLocals = 2 := hml0
  have hown : s.vm.findClass "java/lang/StringUTF16" = some m.cls := findClass_of_methodNamed Bd.named
  have hnm := (name_of_methodNamed Bd.named Bd.method).1
  have X0 : Stand p l e ({ frames := 0, cells := 0, slots := 0, locals := 0 } : Room) s m #[(.ref b1), (.int (2 : Int32))] below meth c s₁ [] 0 0 := Stand.of_body Bd
  have e0 : s₁.heap = h0 := by rw [← hh, Bd.state]; rfl
  have N0 := Fr.nil n0
  refine goB (ef_17 m b1) ?_
  show Go p.tables e below s₁ (mkF m 0 #[.val (.ref b1), .val (.int (2 : Int32))] []) _
  refine go1 (fun _ => XS.iloadN X0.here hx rfl (hb hby d17_0) rfl) ?_
  show Go p.tables e below s₁ (mkF m 1 #[.val (.ref b1), .val (.int (2 : Int32))] [(.int (2 : Int32))]) _
  refine go1 (fun _ => XS.aloadN X0.here hx rfl (hb hby d17_1) rfl rfl) ?_
  show Go p.tables e below s₁ (mkF m 2 #[.val (.ref b1), .val (.int (2 : Int32))] [(.ref b1), (.int (2 : Int32))]) _
  have vo1 := V_b1
  obtain ⟨cl1, Ar1, -, S1, M1, -, -⟩ := vo1
  refine go1 (T' := s₁) (g' := (mkF m 3 #[.val (.ref b1), .val (.int (2 : Int32))] [(.int (2 : Int32)), (.int (2 : Int32))])) (fun t k => ?_) ?_
  · refine X0.arraylength hx (by rw [e0]; exact Ar1.1) (State.isArrayOf_alike hZ.alike Ar1.2.1) (g := (mkF m 2 #[.val (.ref b1), .val (.int (2 : Int32))] [(.ref b1), (.int (2 : Int32))])) rfl rfl (hb hby d17_2) _ ?_
    rw [len_of S1 M1]
    exact k
  show Go p.tables e below s₁ (mkF m 3 #[.val (.ref b1), .val (.int (2 : Int32))] [(.int (2 : Int32)), (.int (2 : Int32))]) _
  refine go1 (fun _ => XS.isub X0.here hx rfl (hb hby d17_3) rfl) ?_
  show Go p.tables e below s₁ (mkF m 4 #[.val (.ref b1), .val (.int (2 : Int32))] [(.int (0 : Int32))]) _
  refine go1 (fun _ => XS.bipush X0.here hx rfl (hb hby d17_4)) ?_
  show Go p.tables e below s₁ (mkF m 6 #[.val (.ref b1), .val (.int (2 : Int32))] [(.int (31 : Int32)), (.int (0 : Int32))]) _
  refine go1 (fun _ => XS.iushr X0.here hx rfl (hb hby d17_6) rfl) ?_
  show Go p.tables e below s₁ (mkF m 7 #[.val (.ref b1), .val (.int (2 : Int32))] [(.int (0 : Int32))]) _
  refine go1 (fun _ => XS.i2b X0.here hx rfl (hb hby d17_7) rfl) ?_
  show Go p.tables e below s₁ (mkF m 8 #[.val (.ref b1), .val (.int (2 : Int32))] [(.int (0 : Int32))]) _
  refine goR X0 (BodyLoose.notSynchronized Bd) (v := (some (.int (0 : Int32)))) (fun h => by rw [Bd.returns] at h; cases h) (Q17 Z b1 kb vs h0 n0) (fun fs hr => retN X0 hx (t := .byte) Bd.returns (by simp) (hb hby d17_8) hr) (by decide) (by decide) ?_
  show Q17 Z b1 kb vs h0 n0 _ s₁.heap _
  rw [e0]
  exact ⟨rfl, N0, rfl⟩
theorem d14_0 : decode jdk_42_method_149_code 0 = .ok (.aload_n 0, 1) := by decide +kernel
theorem d14_1 : decode jdk_42_method_149_code 1 = .ok (.invokespecial 1, 3) := by decide +kernel
theorem d14_4 : decode jdk_42_method_149_code 4 = .ok (.iload_n 3, 1) := by decide +kernel
theorem d14_5 : decode jdk_42_method_149_code 5 = .ok (.ifCond .ne 22, 3) := by decide +kernel
theorem d14_27 : decode jdk_42_method_149_code 27 = .ok (.getstatic 38, 3) := by decide +kernel
theorem d14_30 : decode jdk_42_method_149_code 30 = .ok (.ifCond .eq 28, 3) := by decide +kernel
theorem d14_33 : decode jdk_42_method_149_code 33 = .ok (.aload_n 1, 1) := by decide +kernel
theorem d14_34 : decode jdk_42_method_149_code 34 = .ok (.iload_n 2, 1) := by decide +kernel
theorem d14_35 : decode jdk_42_method_149_code 35 = .ok (.iload_n 3, 1) := by decide +kernel
theorem d14_36 : decode jdk_42_method_149_code 36 = .ok (.invokestatic 177, 3) := by decide +kernel
theorem d14_39 : decode jdk_42_method_149_code 39 = .ok (.astore 5, 2) := by decide +kernel
theorem d14_41 : decode jdk_42_method_149_code 41 = .ok (.aload_n 0, 1) := by decide +kernel
theorem d14_42 : decode jdk_42_method_149_code 42 = .ok (.aload 5, 2) := by decide +kernel
theorem d14_44 : decode jdk_42_method_149_code 44 = .ok (.iload_n 3, 1) := by decide +kernel
theorem d14_45 : decode jdk_42_method_149_code 45 = .ok (.invokestatic 47, 3) := by decide +kernel
theorem d14_48 : decode jdk_42_method_149_code 48 = .ok (.putfield 15, 3) := by decide +kernel
theorem d14_51 : decode jdk_42_method_149_code 51 = .ok (.aload_n 0, 1) := by decide +kernel
theorem d14_52 : decode jdk_42_method_149_code 52 = .ok (.aload 5, 2) := by decide +kernel
theorem d14_54 : decode jdk_42_method_149_code 54 = .ok (.putfield 9, 3) := by decide +kernel
theorem d14_57 : decode jdk_42_method_149_code 57 = .ok (.return_, 1) := by decide +kernel
theorem pn_14 : plainName "java/lang/String" = true := by first | (simp [plainName, overriddenIn]; done) | decide +kernel
theorem pd14_0 : parseMethodDescriptor "([CII)[B" = some ⟨[(.array .char), .int, .int], some (.array .byte)⟩ := by decide +kernel
theorem pd14_1 : parseMethodDescriptor "([BI)B" = some ⟨[(.array .byte), .int], some .byte⟩ := by decide +kernel
theorem ef_14 (m : MethodId) (b1 : Addr) (a1 : Addr) : entryFrame m #[(.ref b1), (.ref a1), (.int (0 : Int32)), (.int (2 : Int32)), .null] 6 = mkF m 0 #[.val (.ref b1), .val (.ref a1), .val (.int (0 : Int32)), .val (.int (2 : Int32)), .val .null, .unset] [] := by first | (simp [entryFrame, mkF, argsToLocals, Value.category]; done) | rfl
def Q14 (Z : State) (b1 : Addr) (a1 : Addr) (ka : ClassId) (v0 : Int32) (v1 : Int32) (a_COMPACT_STRINGS : Int32) (h0 : Heap) (n0 : Nat) (v : Option Value) (h : Heap) (L : List Loc) : Prop := v = none ∧ Fr n0 L ∧ Keep h0 h [b1] ∧ Exa Z h b1 "java/lang/String"
set_option maxRecDepth 65536 in
set_option maxHeartbeats 40000000 in
theorem rm14 (l : Launch) (Z : State) (a0 : Array Value) (hw : ∀ d ∈ tables_1, d.before a0 Z = true) (ws : List Jvm.Cond) (b1 : Addr) (a1 : Addr) (ka : ClassId) (v0 : Int32) (v1 : Int32) (a_COMPACT_STRINGS : Int32) (h0 : Heap) (n0 : Nat) (Z0 : n0 ≤ h0.size) (F_value_b1 : Fld Z h0 b1 "java/lang/String" "value" "[B" .null) (F_coder_b1 : Fld Z h0 b1 "java/lang/String" "coder" "B" (.int (0 : Int32))) (E_b1 : Exa Z h0 b1 "java/lang/String") (g_b1 : n0 ≤ b1) (O0 : Old Z n0 h0) (S_COMPACT_STRINGS : Sta Z Z.heap "java/lang/String" "COMPACT_STRINGS" "Z" (.int a_COMPACT_STRINGS)) (P_a_COMPACT_STRINGS : ¬ (a_COMPACT_STRINGS = (0 : Int32))) (V_a1 : Arv Z h0 a1 ka .char (2 : Int32) [.int v0, .int v1] (.int 0)) (hne : a1 ≠ b1) (h0v : ¬ ((255 : Int32) < v0)) (h1v : ¬ ((255 : Int32) < v1)) :
    MetFree l (⟨"java/lang/String", "<init>", "([CIILjava/lang/Void;)V"⟩ : MethodName) (head1 (Jvm.Cond.code (⟨"java/lang/String", "<init>", "([CIILjava/lang/Void;)V"⟩ : MethodName) jdk_42_method_149_code 6 none :: ws) ({ frames := 2, cells := 1, slots := 2, locals := 35 } : Room)) (fun a U => a = #[(.ref b1), (.ref a1), (.int (0 : Int32)), (.int (2 : Int32)), .null] ∧ Z.Warmed39 U.vm ∧ U.heap = h0) (fun _ _ _ _ _ => True) (fun _ U o U' => ∃ v L, o = .returned v ∧ Q14 Z b1 a1 ka v0 v1 a_COMPACT_STRINGS h0 n0 v U'.heap L ∧ FrameEnd U o U' L ({ frames := 2, cells := 1, slots := 2, locals := 35 } : Room).cells ({ frames := 2, cells := 1, slots := 2, locals := 35 } : Room).slots) := by
  refine MetFree.of_bodySF (plainFor_of_name pn_14) hisR ?_
  intro p e s m args below meth c s₁ Bd hml0 hP hK
  obtain ⟨rfl, hZ, hh⟩ := hP
  have hx := Bd.exec
  have hby := Bd.bytes
  have hml : c.maxLocals = 6 := hml0
  have hown : s.vm.findClass "java/lang/String" = some m.cls := findClass_of_methodNamed Bd.named
  have hnm := (name_of_methodNamed Bd.named Bd.method).1
  have X0 : Stand p l e ({ frames := 2, cells := 1, slots := 2, locals := 35 } : Room) s m #[(.ref b1), (.ref a1), (.int (0 : Int32)), (.int (2 : Int32)), .null] below meth c s₁ [] 0 0 := Stand.of_body Bd
  have e0 : s₁.heap = h0 := by rw [← hh, Bd.state]; rfl
  have N0 := Fr.nil n0
  refine goB (ef_14 m b1 a1) ?_
  show Go p.tables e below s₁ (mkF m 0 #[.val (.ref b1), .val (.ref a1), .val (.int (0 : Int32)), .val (.int (2 : Int32)), .val .null, .unset] []) _
  refine go1 (fun _ => XS.aloadN X0.here hx rfl (hb hby d14_0) rfl rfl) ?_
  show Go p.tables e below s₁ (mkF m 1 #[.val (.ref b1), .val (.ref a1), .val (.int (0 : Int32)), .val (.int (2 : Int32)), .val .null, .unset] [(.ref b1)]) _
  obtain ⟨T1, X1, e1, st1⟩ := initO X0 hx hZ hown (hw _ (List.mem_of_getElem? (i := 72) rfl)) (hw _ (List.mem_of_getElem? (i := 24) rfl)) (hw _ (List.mem_of_getElem? (i := 25) rfl)) e0 (g := (mkF m 1 #[.val (.ref b1), .val (.ref a1), .val (.int (0 : Int32)), .val (.int (2 : Int32)), .val .null, .unset] [(.ref b1)])) rfl (by rw [hml]; rfl) rfl (hb hby d14_1) (by decide) (W := 0) (by show 2 * 0 + _ ≤ _; exact Nat.le_of_eq rfl) (by decide)
  refine go1 st1 ?_
  show Go p.tables e below T1 (mkF m 4 #[.val (.ref b1), .val (.ref a1), .val (.int (0 : Int32)), .val (.int (2 : Int32)), .val .null, .unset] []) _
  refine go1 (fun _ => XS.iloadN X1.here hx rfl (hb hby d14_4) rfl) ?_
  show Go p.tables e below T1 (mkF m 5 #[.val (.ref b1), .val (.ref a1), .val (.int (0 : Int32)), .val (.int (2 : Int32)), .val .null, .unset] [(.int (2 : Int32))]) _
  refine go1 (fun _ => XS.ifYes X1.here hx rfl (pc0 := 5) (pc' := 27) rfl (hb hby d14_5) rfl ((if0 _ _).trans (feq (by decide : ¬ ((2 : Int32) = (0 : Int32)))).2) (by decide) (by decide)) ?_
  show Go p.tables e below T1 (mkF m 27 #[.val (.ref b1), .val (.ref a1), .val (.int (0 : Int32)), .val (.int (2 : Int32)), .val .null, .unset] []) _
  obtain ⟨T2, X2, e2, st2⟩ := getS2 X1 hx hZ hown (host := "") (Or.inl (hw _ (List.mem_of_getElem? (i := 59) rfl))) Via.refl e1 (S_COMPACT_STRINGS.ext O0.2) (g := (mkF m 27 #[.val (.ref b1), .val (.ref a1), .val (.int (0 : Int32)), .val (.int (2 : Int32)), .val .null, .unset] [])) rfl (hb hby d14_27)
  refine go1 st2 ?_
  show Go p.tables e below T2 (mkF m 30 #[.val (.ref b1), .val (.ref a1), .val (.int (0 : Int32)), .val (.int (2 : Int32)), .val .null, .unset] [(.int a_COMPACT_STRINGS)]) _
  refine go1 (fun _ => XS.ifNo X2.here hx rfl (hb hby d14_30) rfl ((if0 _ _).trans (feq P_a_COMPACT_STRINGS).1)) ?_
  show Go p.tables e below T2 (mkF m 33 #[.val (.ref b1), .val (.ref a1), .val (.int (0 : Int32)), .val (.int (2 : Int32)), .val .null, .unset] []) _
  refine go1 (fun _ => XS.aloadN X2.here hx rfl (hb hby d14_33) rfl rfl) ?_
  show Go p.tables e below T2 (mkF m 34 #[.val (.ref b1), .val (.ref a1), .val (.int (0 : Int32)), .val (.int (2 : Int32)), .val .null, .unset] [(.ref a1)]) _
  refine go1 (fun _ => XS.iloadN X2.here hx rfl (hb hby d14_34) rfl) ?_
  show Go p.tables e below T2 (mkF m 35 #[.val (.ref b1), .val (.ref a1), .val (.int (0 : Int32)), .val (.int (2 : Int32)), .val .null, .unset] [(.int (0 : Int32)), (.ref a1)]) _
  refine go1 (fun _ => XS.iloadN X2.here hx rfl (hb hby d14_35) rfl) ?_
  show Go p.tables e below T2 (mkF m 36 #[.val (.ref b1), .val (.ref a1), .val (.int (0 : Int32)), .val (.int (2 : Int32)), .val .null, .unset] [(.int (2 : Int32)), (.int (0 : Int32)), (.ref a1)]) _
  obtain ⟨_, _, ⟨T3, L3, k3, n3⟩, -, X3, ⟨Lc3, hQ3, l3, y3, z3⟩, st3⟩ := Jvm.LawKit.callS X2 hx (y := (⟨"java/lang/StringUTF16", "compress", "([CII)[B"⟩ : MethodName)) hown (mvT hZ (hw _ (List.mem_of_getElem? (i := 83) rfl))) (mvT hZ (hw _ (List.mem_of_getElem? (i := 84) rfl))) (mvT hZ (hw _ (List.mem_of_getElem? (i := 85) rfl))) (mvT hZ (hw _ (List.mem_of_getElem? (i := 86) rfl))) (by decide) (backOf (W := 0) (rm15 l Z a0 hw [] a1 ka v0 v1 h0 n0 Z0 V_a1 h0v h1v) hZ (hw _ (List.mem_of_getElem? (i := 86) rfl)) (hw _ (List.mem_of_getElem? (i := 85) rfl)) (by decide) (by decide)) (g := (mkF m 36 #[.val (.ref b1), .val (.ref a1), .val (.int (0 : Int32)), .val (.int (2 : Int32)), .val .null, .unset] [(.int (2 : Int32)), (.int (0 : Int32)), (.ref a1)])) rfl (by rw [hml]; rfl) (argsL := [(.ref a1), (.int (0 : Int32)), (.int (2 : Int32))]) (rest := []) (lenOf pd14_0 rfl) rfl (by show 2 * 0 + _ ≤ _; exact Nat.le_of_eq rfl) (hb hby d14_36) (fun _ _ => ⟨rfl, e2, (by decide : 0 + 1 ≤ _), (by decide : 0 + 2 ≤ _)⟩)
  dsimp only [Pt.U, Pt.locs, Pt.cells, Pt.slots] at X3 l3 y3 z3 st3 hQ3
  subst l3 y3 z3
  obtain ⟨b4, kb5, vs6, rfl, N3q, K3, G3_0, G3_1, G3_2⟩ := hQ3
  have N3 := Fr.app N0 N3q
  refine go1 st3 ?_
  show Go p.tables e below T3 (mkF m 39 #[.val (.ref b1), .val (.ref a1), .val (.int (0 : Int32)), .val (.int (2 : Int32)), .val .null, .unset] [(.ref b4)]) _
  refine go1 (fun _ => XS.astore X3.here hx rfl (hb hby d14_39) rfl rfl (l' := #[.val (.ref b1), .val (.ref a1), .val (.int (0 : Int32)), .val (.int (2 : Int32)), .val .null, .val (.ref b4)]) rfl) ?_
  show Go p.tables e below T3 (mkF m 41 #[.val (.ref b1), .val (.ref a1), .val (.int (0 : Int32)), .val (.int (2 : Int32)), .val .null, .val (.ref b4)] []) _
  refine go1 (fun _ => XS.aloadN X3.here hx rfl (hb hby d14_41) rfl rfl) ?_
  show Go p.tables e below T3 (mkF m 42 #[.val (.ref b1), .val (.ref a1), .val (.int (0 : Int32)), .val (.int (2 : Int32)), .val .null, .val (.ref b4)] [(.ref b1)]) _
  refine go1 (fun _ => XS.aload X3.here hx rfl (hb hby d14_42) rfl rfl) ?_
  show Go p.tables e below T3 (mkF m 44 #[.val (.ref b1), .val (.ref a1), .val (.int (0 : Int32)), .val (.int (2 : Int32)), .val .null, .val (.ref b4)] [(.ref b4), (.ref b1)]) _
  refine go1 (fun _ => XS.iloadN X3.here hx rfl (hb hby d14_44) rfl) ?_
  show Go p.tables e below T3 (mkF m 45 #[.val (.ref b1), .val (.ref a1), .val (.int (0 : Int32)), .val (.int (2 : Int32)), .val .null, .val (.ref b4)] [(.int (2 : Int32)), (.ref b4), (.ref b1)]) _
  obtain ⟨_, _, ⟨T7, L7, k7, n7⟩, -, X7, ⟨Lc7, hQ7, l7, y7, z7⟩, st7⟩ := Jvm.LawKit.callS X3 hx (y := (⟨"java/lang/StringUTF16", "coderFromArrayLen", "([BI)B"⟩ : MethodName)) hown (mvT hZ (hw _ (List.mem_of_getElem? (i := 90) rfl))) (mvT hZ (hw _ (List.mem_of_getElem? (i := 91) rfl))) (mvT hZ (hw _ (List.mem_of_getElem? (i := 85) rfl))) (mvT hZ (hw _ (List.mem_of_getElem? (i := 92) rfl))) (by decide) (backOf (W := 1) (rm17 l Z a0 hw [] b4 kb5 vs6 T3.heap n0 (Nat.le_trans Z0 K3.1) G3_2) hZ (hw _ (List.mem_of_getElem? (i := 92) rfl)) (hw _ (List.mem_of_getElem? (i := 85) rfl)) (by decide) (by decide)) (g := (mkF m 45 #[.val (.ref b1), .val (.ref a1), .val (.int (0 : Int32)), .val (.int (2 : Int32)), .val .null, .val (.ref b4)] [(.int (2 : Int32)), (.ref b4), (.ref b1)])) rfl (by rw [hml]; rfl) (argsL := [(.ref b4), (.int (2 : Int32))]) (rest := [(.ref b1)]) (lenOf pd14_1 rfl) rfl (by show 2 * 0 + _ ≤ _; exact Nat.le_of_eq rfl) (hb hby d14_45) (fun _ _ => ⟨rfl, rfl, (by decide : 1 + 0 ≤ _), (by decide : 2 + 0 ≤ _)⟩)
  dsimp only [Pt.U, Pt.locs, Pt.cells, Pt.slots] at X7 l7 y7 z7 st7 hQ7
  subst l7 y7 z7
  obtain ⟨rfl, N7q, e7⟩ := hQ7
  have N7 := Fr.app N3 N7q
  refine go1 st7 ?_
  show Go p.tables e below T7 (mkF m 48 #[.val (.ref b1), .val (.ref a1), .val (.int (0 : Int32)), .val (.int (2 : Int32)), .val .null, .val (.ref b4)] [(.int (0 : Int32)), (.ref b1)]) _
  obtain ⟨T8, h8, X8, e8, W8, st8⟩ := putFN X7 hx hZ hown (hw _ (List.mem_of_getElem? (i := 74) rfl)) Via.refl e7 (F_coder_b1.keep K3 nin0) (E_b1.keep K3) (Or.inr ⟨(hw _ (List.mem_of_getElem? (i := 9) rfl)), rfl, hnm⟩) (hw _ (List.mem_of_getElem? (i := 6) rfl)) (ty := .byte) (v' := (.int (0 : Int32))) (by decide) rfl (by decide) (g := (mkF m 48 #[.val (.ref b1), .val (.ref a1), .val (.int (0 : Int32)), .val (.int (2 : Int32)), .val .null, .val (.ref b4)] [(.int (0 : Int32)), (.ref b1)])) rfl rfl (hb hby d14_48)
  refine go1 st8 ?_
  have Fw8 := (F_coder_b1.keep K3 nin0).same W8
  have N8 := Fr.snoc X8 N7 g_b1
  show Go p.tables e below T8 (mkF m 51 #[.val (.ref b1), .val (.ref a1), .val (.int (0 : Int32)), .val (.int (2 : Int32)), .val .null, .val (.ref b4)] []) _
  refine go1 (fun _ => XS.aloadN X8.here hx rfl (hb hby d14_51) rfl rfl) ?_
  show Go p.tables e below T8 (mkF m 52 #[.val (.ref b1), .val (.ref a1), .val (.int (0 : Int32)), .val (.int (2 : Int32)), .val .null, .val (.ref b4)] [(.ref b1)]) _
  refine go1 (fun _ => XS.aload X8.here hx rfl (hb hby d14_52) rfl rfl) ?_
  show Go p.tables e below T8 (mkF m 54 #[.val (.ref b1), .val (.ref a1), .val (.int (0 : Int32)), .val (.int (2 : Int32)), .val .null, .val (.ref b4)] [(.ref b4), (.ref b1)]) _
  obtain ⟨T9, h9, X9, e9, W9, st9⟩ := putF X8 hx hZ hown (host := "") (Or.inl (hw _ (List.mem_of_getElem? (i := 73) rfl))) Via.refl e8 ((F_value_b1.keep K3 nin0).other W8 (Or.inr (slot_ne (Or.inr (hw _ (List.mem_of_getElem? (i := 8) rfl))) (Or.inr (hw _ (List.mem_of_getElem? (i := 9) rfl))) (by decide) (t := (.array .byte)) (t' := .byte) (by decide) (by decide)))) ((E_b1.keep K3).wr W8) (Or.inr ⟨(hw _ (List.mem_of_getElem? (i := 8) rfl)), rfl, hnm⟩) (hw _ (List.mem_of_getElem? (i := 6) rfl)) (ty := (.array .byte)) (by decide) rfl rfl (g := (mkF m 54 #[.val (.ref b1), .val (.ref a1), .val (.int (0 : Int32)), .val (.int (2 : Int32)), .val .null, .val (.ref b4)] [(.ref b4), (.ref b1)])) rfl rfl (hb hby d14_54)
  refine go1 st9 ?_
  have Fw9 := ((F_value_b1.keep K3 nin0).other W8 (Or.inr (slot_ne (Or.inr (hw _ (List.mem_of_getElem? (i := 8) rfl))) (Or.inr (hw _ (List.mem_of_getElem? (i := 9) rfl))) (by decide) (t := (.array .byte)) (t' := .byte) (by decide) (by decide)))).same W9
  have N9 := Fr.snoc X9 N8 g_b1
  show Go p.tables e below T9 (mkF m 57 #[.val (.ref b1), .val (.ref a1), .val (.int (0 : Int32)), .val (.int (2 : Int32)), .val .null, .val (.ref b4)] []) _
  refine goR X9 (BodyLoose.notSynchronized Bd) (v := none) (fun _ => rfl) (Q14 Z b1 a1 ka v0 v1 a_COMPACT_STRINGS h0 n0) (fun fs hr => X9.returnOut hx Bd.returns (hb hby d14_57) hr) (by decide) (by decide) ?_
  show Q14 Z b1 a1 ka v0 v1 a_COMPACT_STRINGS h0 n0 _ T9.heap _
  rw [e9]
  exact ⟨rfl, N9, ((((Keep.refl h0 [b1]).trans K3 all0).wr W8 (Or.inl (List.mem_of_getElem? (i := 0) rfl))).wr W9 (Or.inl (List.mem_of_getElem? (i := 0) rfl))), (((E_b1.keep K3).wr W8).wr W9)⟩
theorem d13_0 : decode jdk_42_method_3_code 0 = .ok (.aload_n 0, 1) := by decide +kernel
theorem d13_1 : decode jdk_42_method_3_code 1 = .ok (.aload_n 1, 1) := by decide +kernel
theorem d13_2 : decode jdk_42_method_3_code 2 = .ok (.iconst 0, 1) := by decide +kernel
theorem d13_3 : decode jdk_42_method_3_code 3 = .ok (.aload_n 1, 1) := by decide +kernel
theorem d13_4 : decode jdk_42_method_3_code 4 = .ok (.arraylength, 1) := by decide +kernel
theorem d13_5 : decode jdk_42_method_3_code 5 = .ok (.aconst_null, 1) := by decide +kernel
theorem d13_6 : decode jdk_42_method_3_code 6 = .ok (.invokespecial 27, 3) := by decide +kernel
theorem d13_9 : decode jdk_42_method_3_code 9 = .ok (.return_, 1) := by decide +kernel
theorem pn_13 : plainName "java/lang/String" = true := by first | (simp [plainName, overriddenIn]; done) | decide +kernel
theorem pd13_0 : parseMethodDescriptor "([CIILjava/lang/Void;)V" = some ⟨[(.array .char), .int, .int, (.object "java/lang/Void")], none⟩ := by decide +kernel
theorem ef_13 (m : MethodId) (b1 : Addr) (a1 : Addr) : entryFrame m #[(.ref b1), (.ref a1)] 2 = mkF m 0 #[.val (.ref b1), .val (.ref a1)] [] := by first | (simp [entryFrame, mkF, argsToLocals, Value.category]; done) | rfl
def Q13 (Z : State) (b1 : Addr) (a1 : Addr) (ka : ClassId) (v0 : Int32) (v1 : Int32) (a_COMPACT_STRINGS : Int32) (h0 : Heap) (n0 : Nat) (v : Option Value) (h : Heap) (L : List Loc) : Prop := v = none ∧ Fr n0 L ∧ Keep h0 h [b1] ∧ Exa Z h b1 "java/lang/String"
set_option maxRecDepth 65536 in
set_option maxHeartbeats 40000000 in
theorem rm13 (l : Launch) (Z : State) (a0 : Array Value) (hw : ∀ d ∈ tables_1, d.before a0 Z = true) (ws : List Jvm.Cond) (b1 : Addr) (a1 : Addr) (ka : ClassId) (v0 : Int32) (v1 : Int32) (a_COMPACT_STRINGS : Int32) (h0 : Heap) (n0 : Nat) (Z0 : n0 ≤ h0.size) (F_value_b1 : Fld Z h0 b1 "java/lang/String" "value" "[B" .null) (F_coder_b1 : Fld Z h0 b1 "java/lang/String" "coder" "B" (.int (0 : Int32))) (E_b1 : Exa Z h0 b1 "java/lang/String") (g_b1 : n0 ≤ b1) (O0 : Old Z n0 h0) (S_COMPACT_STRINGS : Sta Z Z.heap "java/lang/String" "COMPACT_STRINGS" "Z" (.int a_COMPACT_STRINGS)) (P_a_COMPACT_STRINGS : ¬ (a_COMPACT_STRINGS = (0 : Int32))) (V_a1 : Arv Z h0 a1 ka .char (2 : Int32) [.int v0, .int v1] (.int 0)) (hne : a1 ≠ b1) (h0v : ¬ ((255 : Int32) < v0)) (h1v : ¬ ((255 : Int32) < v1)) :
    MetFree l (⟨"java/lang/String", "<init>", "([C)V"⟩ : MethodName) (head1 (Jvm.Cond.code (⟨"java/lang/String", "<init>", "([C)V"⟩ : MethodName) jdk_42_method_3_code 2 none :: ws) ({ frames := 3, cells := 1, slots := 2, locals := 52 } : Room)) (fun a U => a = #[(.ref b1), (.ref a1)] ∧ Z.Warmed39 U.vm ∧ U.heap = h0) (fun _ _ _ _ _ => True) (fun _ U o U' => ∃ v L, o = .returned v ∧ Q13 Z b1 a1 ka v0 v1 a_COMPACT_STRINGS h0 n0 v U'.heap L ∧ FrameEnd U o U' L ({ frames := 3, cells := 1, slots := 2, locals := 52 } : Room).cells ({ frames := 3, cells := 1, slots := 2, locals := 52 } : Room).slots) := by
  refine MetFree.of_bodySF (plainFor_of_name pn_13) hisR ?_
  intro p e s m args below meth c s₁ Bd hml0 hP hK
  obtain ⟨rfl, hZ, hh⟩ := hP
  have hx := Bd.exec
  have hby := Bd.bytes
  have hml : c.maxLocals = 2 := hml0
  have hown : s.vm.findClass "java/lang/String" = some m.cls := findClass_of_methodNamed Bd.named
  have hnm := (name_of_methodNamed Bd.named Bd.method).1
  have X0 : Stand p l e ({ frames := 3, cells := 1, slots := 2, locals := 52 } : Room) s m #[(.ref b1), (.ref a1)] below meth c s₁ [] 0 0 := Stand.of_body Bd
  have e0 : s₁.heap = h0 := by rw [← hh, Bd.state]; rfl
  have N0 := Fr.nil n0
  refine goB (ef_13 m b1 a1) ?_
  show Go p.tables e below s₁ (mkF m 0 #[.val (.ref b1), .val (.ref a1)] []) _
  refine go1 (fun _ => XS.aloadN X0.here hx rfl (hb hby d13_0) rfl rfl) ?_
  show Go p.tables e below s₁ (mkF m 1 #[.val (.ref b1), .val (.ref a1)] [(.ref b1)]) _
  refine go1 (fun _ => XS.aloadN X0.here hx rfl (hb hby d13_1) rfl rfl) ?_
  show Go p.tables e below s₁ (mkF m 2 #[.val (.ref b1), .val (.ref a1)] [(.ref a1), (.ref b1)]) _
  refine go1 (fun _ => XS.iconst X0.here hx rfl (hb hby d13_2)) ?_
  show Go p.tables e below s₁ (mkF m 3 #[.val (.ref b1), .val (.ref a1)] [(.int (0 : Int32)), (.ref a1), (.ref b1)]) _
  refine go1 (fun _ => XS.aloadN X0.here hx rfl (hb hby d13_3) rfl rfl) ?_
  show Go p.tables e below s₁ (mkF m 4 #[.val (.ref b1), .val (.ref a1)] [(.ref a1), (.int (0 : Int32)), (.ref a1), (.ref b1)]) _
  have vo1 := V_a1
  obtain ⟨cl1, Ar1, -, S1, M1, -, -⟩ := vo1
  refine go1 (T' := s₁) (g' := (mkF m 5 #[.val (.ref b1), .val (.ref a1)] [(.int (2 : Int32)), (.int (0 : Int32)), (.ref a1), (.ref b1)])) (fun t k => ?_) ?_
  · refine X0.arraylength hx (by rw [e0]; exact Ar1.1) (State.isArrayOf_alike hZ.alike Ar1.2.1) (g := (mkF m 4 #[.val (.ref b1), .val (.ref a1)] [(.ref a1), (.int (0 : Int32)), (.ref a1), (.ref b1)])) rfl rfl (hb hby d13_4) _ ?_
    rw [len_of S1 M1]
    exact k
  show Go p.tables e below s₁ (mkF m 5 #[.val (.ref b1), .val (.ref a1)] [(.int (2 : Int32)), (.int (0 : Int32)), (.ref a1), (.ref b1)]) _
  refine go1 (fun _ => XS.aconstNull X0.here hx rfl (hb hby d13_5)) ?_
  show Go p.tables e below s₁ (mkF m 6 #[.val (.ref b1), .val (.ref a1)] [.null, (.int (2 : Int32)), (.int (0 : Int32)), (.ref a1), (.ref b1)]) _
  obtain ⟨_, _, ⟨T2, L2, k2, n2⟩, -, X2, ⟨Lc2, hQ2, l2, y2, z2⟩, st2⟩ := X0.specialBack hx (y := (⟨"java/lang/String", "<init>", "([CIILjava/lang/Void;)V"⟩ : MethodName)) rfl hown (mvT hZ (hw _ (List.mem_of_getElem? (i := 80) rfl))) (mvT hZ (hw _ (List.mem_of_getElem? (i := 81) rfl))) (mvT hZ (hw _ (List.mem_of_getElem? (i := 82) rfl))) (by decide) (backOf (W := 0) (rm14 l Z a0 hw [] b1 a1 ka v0 v1 a_COMPACT_STRINGS h0 n0 Z0 F_value_b1 F_coder_b1 E_b1 g_b1 O0 S_COMPACT_STRINGS P_a_COMPACT_STRINGS V_a1 hne h0v h1v) hZ (hw _ (List.mem_of_getElem? (i := 82) rfl)) (hw _ (List.mem_of_getElem? (i := 5) rfl)) (by decide) (by decide)) (g := (mkF m 6 #[.val (.ref b1), .val (.ref a1)] [.null, (.int (2 : Int32)), (.int (0 : Int32)), (.ref a1), (.ref b1)])) rfl (by rw [hml]; rfl) (Steps.refl _) (a := b1) (argsL := [(.ref a1), (.int (0 : Int32)), (.int (2 : Int32)), .null]) (rest := []) (lenOf pd13_0 rfl) rfl (by show 2 * 0 + _ ≤ _; exact Nat.le_of_eq rfl) (hb hby d13_6) (fun _ _ => ⟨rfl, e0, (by decide : 0 + 1 ≤ _), (by decide : 0 + 2 ≤ _)⟩)
  dsimp only [Pt.U, Pt.locs, Pt.cells, Pt.slots] at X2 l2 y2 z2 st2 hQ2
  subst l2 y2 z2
  obtain ⟨rfl, N2q, K2, G2_0⟩ := hQ2
  have N2 := Fr.app N0 N2q
  refine goT st2 ?_
  show Go p.tables e below T2 (mkF m 9 #[.val (.ref b1), .val (.ref a1)] []) _
  refine goR X2 (BodyLoose.notSynchronized Bd) (v := none) (fun _ => rfl) (Q13 Z b1 a1 ka v0 v1 a_COMPACT_STRINGS h0 n0) (fun fs hr => X2.returnOut hx Bd.returns (hb hby d13_9) hr) (by decide) (by decide) ?_
  show Q13 Z b1 a1 ka v0 v1 a_COMPACT_STRINGS h0 n0 _ T2.heap _
  exact ⟨rfl, N2, ((Keep.refl h0 [b1]).trans K2 (allS (Or.inl (List.mem_of_getElem? (i := 0) rfl)) all0)), G2_0⟩
theorem own_ch (x : Int32) : ¬ ((255 : Int32) < ((x &&& (255 : Int32)).toUInt32.toUInt16.toUInt32.toInt32)) ∧ ¬ ((255 : Int32) < (nar .char ((x &&& (255 : Int32)).toUInt32.toUInt16.toUInt32.toInt32))) := by
  have h := c_mask x (255 : Int32) 8 (by decide) (by decide)
  have c := c_i2c (x &&& (255 : Int32))
  have d := c_i2c ((x &&& (255 : Int32)).toUInt32.toUInt16.toUInt32.toInt32)
  have l : (255 : Int32).toInt = 255 := by decide
  refine ⟨?_, ?_⟩
  · rw [Int32.lt_iff_toInt_lt]; omega
  · show ¬ ((255 : Int32) < (((x &&& (255 : Int32)).toUInt32.toUInt16.toUInt32.toInt32)).toUInt32.toUInt16.toUInt32.toInt32)
    rw [Int32.lt_iff_toInt_lt]; omega
theorem d1_0 : decode method_2_code 0 = .ok (.iload_n 0, 1) := by decide +kernel
theorem d1_1 : decode method_2_code 1 = .ok (.ifCond .ne 6, 3) := by decide +kernel
theorem d1_4 : decode method_2_code 4 = .ok (.ldc 7, 2) := by decide +kernel
theorem d1_6 : decode method_2_code 6 = .ok (.areturn, 1) := by decide +kernel
theorem d1_7 : decode method_2_code 7 = .ok (.iload_n 0, 1) := by decide +kernel
theorem d1_8 : decode method_2_code 8 = .ok (.iconst 1, 1) := by decide +kernel
theorem d1_9 : decode method_2_code 9 = .ok (.if_icmp .ne 13, 3) := by decide +kernel
theorem d1_12 : decode method_2_code 12 = .ok (.iload_n 1, 1) := by decide +kernel
theorem d1_13 : decode method_2_code 13 = .ok (.sipush 255, 3) := by decide +kernel
theorem d1_16 : decode method_2_code 16 = .ok (.iand, 1) := by decide +kernel
theorem d1_17 : decode method_2_code 17 = .ok (.i2c, 1) := by decide +kernel
theorem d1_18 : decode method_2_code 18 = .ok (.invokestatic 9, 3) := by decide +kernel
theorem d1_21 : decode method_2_code 21 = .ok (.areturn, 1) := by decide +kernel
theorem d1_22 : decode method_2_code 22 = .ok (.iconst 2, 1) := by decide +kernel
theorem d1_23 : decode method_2_code 23 = .ok (.newarray .char, 2) := by decide +kernel
theorem d1_25 : decode method_2_code 25 = .ok (.dup, 1) := by decide +kernel
theorem d1_26 : decode method_2_code 26 = .ok (.iconst 0, 1) := by decide +kernel
theorem d1_27 : decode method_2_code 27 = .ok (.iload_n 1, 1) := by decide +kernel
theorem d1_28 : decode method_2_code 28 = .ok (.sipush 255, 3) := by decide +kernel
theorem d1_31 : decode method_2_code 31 = .ok (.iand, 1) := by decide +kernel
theorem d1_32 : decode method_2_code 32 = .ok (.i2c, 1) := by decide +kernel
theorem d1_33 : decode method_2_code 33 = .ok (.castore, 1) := by decide +kernel
theorem d1_34 : decode method_2_code 34 = .ok (.dup, 1) := by decide +kernel
theorem d1_35 : decode method_2_code 35 = .ok (.iconst 1, 1) := by decide +kernel
theorem d1_36 : decode method_2_code 36 = .ok (.iload_n 2, 1) := by decide +kernel
theorem d1_37 : decode method_2_code 37 = .ok (.sipush 255, 3) := by decide +kernel
theorem d1_40 : decode method_2_code 40 = .ok (.iand, 1) := by decide +kernel
theorem d1_41 : decode method_2_code 41 = .ok (.i2c, 1) := by decide +kernel
theorem d1_42 : decode method_2_code 42 = .ok (.castore, 1) := by decide +kernel
theorem d1_43 : decode method_2_code 43 = .ok (.astore_n 3, 1) := by decide +kernel
theorem d1_44 : decode method_2_code 44 = .ok (.new 10, 3) := by decide +kernel
theorem d1_47 : decode method_2_code 47 = .ok (.dup, 1) := by decide +kernel
theorem d1_48 : decode method_2_code 48 = .ok (.aload_n 3, 1) := by decide +kernel
theorem d1_49 : decode method_2_code 49 = .ok (.invokespecial 15, 3) := by decide +kernel
theorem d1_52 : decode method_2_code 52 = .ok (.areturn, 1) := by decide +kernel
theorem pn_1 : plainName "com/example/enrout/enrout/broker/cli/OptionIsFlagPinLaw" = true := by first | (simp [plainName, overriddenIn]; done) | decide +kernel
theorem pd1_0 : parseMethodDescriptor "(C)Ljava/lang/String;" = some ⟨[.char], some (.object "java/lang/String")⟩ := by decide +kernel
theorem pd1_1 : parseMethodDescriptor "([C)V" = some ⟨[(.array .char)], none⟩ := by decide +kernel
theorem ef_1 (m : MethodId) (p1 : Int32) (p2 : Int32) (p3 : Int32) : entryFrame m #[(.int p1), (.int p2), (.int p3)] 4 = mkF m 0 #[.val (.int p1), .val (.int p2), .val (.int p3), .unset] [] := by first | (simp [entryFrame, mkF, argsToLocals, Value.category]; done) | rfl
def Q1 (Z : State) (p1 : Int32) (p2 : Int32) (p3 : Int32) (a_COMPACT_STRINGS : Int32) (h0 : Heap) (n0 : Nat) (v : Option Value) (h : Heap) (L : List Loc) : Prop := ∃ (b : Addr), v = some (.ref b) ∧ Fr n0 L ∧ Keep h0 h []
set_option maxRecDepth 65536 in
set_option maxHeartbeats 40000000 in
theorem rm1 (l : Launch) (Z : State) (a0 : Array Value) (hw : ∀ d ∈ tables_1, d.before a0 Z = true) (ws : List Jvm.Cond) (p1 : Int32) (p2 : Int32) (p3 : Int32) (a_COMPACT_STRINGS : Int32) (h0 : Heap) (n0 : Nat) (Z0 : n0 ≤ h0.size) (O0 : Old Z n0 h0) (S_COMPACT_STRINGS : Sta Z Z.heap "java/lang/String" "COMPACT_STRINGS" "Z" (.int a_COMPACT_STRINGS)) (P_a_COMPACT_STRINGS : ¬ (a_COMPACT_STRINGS = (0 : Int32))) :
    MetFree l (⟨"com/example/enrout/enrout/broker/cli/OptionIsFlagPinLaw", "drawn", "(III)Ljava/lang/String;"⟩ : MethodName) (head1 (Jvm.Cond.code (⟨"com/example/enrout/enrout/broker/cli/OptionIsFlagPinLaw", "drawn", "(III)Ljava/lang/String;"⟩ : MethodName) method_2_code 4 (some (.object "java/lang/String")) :: ws) ({ frames := 4, cells := 3, slots := 8, locals := 66 } : Room)) (fun a U => a = #[(.int p1), (.int p2), (.int p3)] ∧ Z.Warmed39 U.vm ∧ U.heap = h0) (fun _ _ _ _ _ => True) (fun _ U o U' => ∃ v L, o = .returned v ∧ Q1 Z p1 p2 p3 a_COMPACT_STRINGS h0 n0 v U'.heap L ∧ ReturnedEndW U o U' L ({ frames := 4, cells := 3, slots := 8, locals := 66 } : Room).cells ({ frames := 4, cells := 3, slots := 8, locals := 66 } : Room).slots) := by
  refine MetFree.of_bodySF (plainFor_of_name pn_1) hisR ?_
  intro p e s m args below meth c s₁ Bd hml0 hP hK
  obtain ⟨rfl, hZ, hh⟩ := hP
  have hx := Bd.exec
  have hby := Bd.bytes
  have hml : c.maxLocals = 4 := hml0
  have hown : s.vm.findClass "com/example/enrout/enrout/broker/cli/OptionIsFlagPinLaw" = some m.cls := findClass_of_methodNamed Bd.named
  have hnm := (name_of_methodNamed Bd.named Bd.method).1
  have X0 : Stand p l e ({ frames := 4, cells := 3, slots := 8, locals := 66 } : Room) (s.setVm s.vm) m #[(.int p1), (.int p2), (.int p3)] below meth c s₁ [] 0 0 := Stand.of_body Bd
  have e0 : s₁.heap = h0 := by rw [← hh, Bd.state]; rfl
  have N0 := Fr.nil n0
  have hS0 : s.Since s.vm 0 := (State.WarmedH.refl s).since 0
  have wS : ∀ d ∈ Bundle.stringAtoms, d.before a0 Z = true := by
    intro d hd
    simp only [Bundle.stringAtoms, List.mem_cons, List.not_mem_nil, or_false] at hd
    rcases hd with rfl | rfl | rfl | rfl | rfl | rfl | rfl
    · exact (hw _ (List.mem_of_getElem? (i := 5) rfl))
    · exact (hw _ (List.mem_of_getElem? (i := 6) rfl))
    · exact (hw _ (List.mem_of_getElem? (i := 7) rfl))
    · exact (hw _ (List.mem_of_getElem? (i := 8) rfl))
    · exact (hw _ (List.mem_of_getElem? (i := 9) rfl))
    · exact (hw _ (List.mem_of_getElem? (i := 10) rfl))
    · exact (hw _ (List.mem_of_getElem? (i := 11) rfl))
  refine goB (ef_1 m p1 p2 p3) ?_
  show Go p.tables e below s₁ (mkF m 0 #[.val (.int p1), .val (.int p2), .val (.int p3), .unset] []) _
  refine go1 (fun _ => XS.iloadN X0.here hx rfl (hb hby d1_0) rfl) ?_
  show Go p.tables e below s₁ (mkF m 1 #[.val (.int p1), .val (.int p2), .val (.int p3), .unset] [(.int p1)]) _
  by_cases hc1 : p1 = (0 : Int32)
  · skip
    refine go1 (fun _ => XS.ifNo X0.here hx rfl (hb hby d1_1) rfl ((if0 _ _).trans (teq hc1).2)) ?_
    show Go p.tables e below s₁ (mkF m 4 #[.val (.int p1), .val (.int p2), .val (.int p3), .unset] []) _
    obtain ⟨b2, T2, h2, kk2, X2, e2, E2, hS2, hk2, hZ2, hown2, st2⟩ := ldcS (s := s) (vm0 := s.vm) X0 hx hZ hown (hw _ (List.mem_of_getElem? (i := 4) rfl)) wS e0 hS0 (Nat.zero_le _) (g := (mkF m 4 #[.val (.int p1), .val (.int p2), .val (.int p3), .unset] [])) rfl (hb hby d1_4) (n := 0) (by decide) (by decide) (by decide) (by decide)
    refine go1 st2 ?_
    show Go p.tables e below T2 (mkF m 6 #[.val (.int p1), .val (.int p2), .val (.int p3), .unset] [(.ref b2)]) _
    refine goRW (s := s) (vm₁ := T2.vm) X2 hS2 (by rw [e2]; exact hk2) (BodyLoose.notSynchronized Bd) (v := (some (.ref b2))) (fun h => by rw [Bd.returns] at h; cases h) (Q1 Z p1 p2 p3 a_COMPACT_STRINGS h0 n0) (fun fs hr => retOut X2 hx (t := (.object "java/lang/String")) (w := (.ref b2)) Bd.returns rfl (Or.inr (Or.inr (Or.inr (Or.inr ⟨rfl, rfl, rfl⟩)))) (hb hby d1_6) hr) (by decide) (by decide) ?_
    show Q1 Z p1 p2 p3 a_COMPACT_STRINGS h0 n0 _ T2.heap _
    rw [e2]
    exact ⟨b2, rfl, N0, ((Keep.refl h0 []).ext E2)⟩
  · skip
    refine go1 (fun _ => XS.ifYes X0.here hx rfl (pc0 := 1) (pc' := 7) rfl (hb hby d1_1) rfl ((if0 _ _).trans (feq hc1).2) (by decide) (by decide)) ?_
    show Go p.tables e below s₁ (mkF m 7 #[.val (.int p1), .val (.int p2), .val (.int p3), .unset] []) _
    refine go1 (fun _ => XS.iloadN X0.here hx rfl (hb hby d1_7) rfl) ?_
    show Go p.tables e below s₁ (mkF m 8 #[.val (.int p1), .val (.int p2), .val (.int p3), .unset] [(.int p1)]) _
    refine go1 (fun _ => XS.iconst X0.here hx rfl (hb hby d1_8)) ?_
    show Go p.tables e below s₁ (mkF m 9 #[.val (.int p1), .val (.int p2), .val (.int p3), .unset] [(.int (1 : Int32)), (.int p1)]) _
    by_cases hc3 : p1 = (1 : Int32)
    · skip
      refine go1 (fun _ => XS.icmpNo X0.here hx rfl (hb hby d1_9) rfl (teq hc3).2) ?_
      show Go p.tables e below s₁ (mkF m 12 #[.val (.int p1), .val (.int p2), .val (.int p3), .unset] []) _
      refine go1 (fun _ => XS.iloadN X0.here hx rfl (hb hby d1_12) rfl) ?_
      show Go p.tables e below s₁ (mkF m 13 #[.val (.int p1), .val (.int p2), .val (.int p3), .unset] [(.int p2)]) _
      refine go1 (fun _ => XS.sipush X0.here hx rfl (hb hby d1_13)) ?_
      show Go p.tables e below s₁ (mkF m 16 #[.val (.int p1), .val (.int p2), .val (.int p3), .unset] [(.int (255 : Int32)), (.int p2)]) _
      refine go1 (fun _ => XS.iand X0.here hx rfl (hb hby d1_16) rfl) ?_
      show Go p.tables e below s₁ (mkF m 17 #[.val (.int p1), .val (.int p2), .val (.int p3), .unset] [(.int (p2 &&& (255 : Int32)))]) _
      refine go1 (fun _ => XS.i2c X0.here hx rfl (hb hby d1_17) rfl) ?_
      show Go p.tables e below s₁ (mkF m 18 #[.val (.int p1), .val (.int p2), .val (.int p3), .unset] [(.int ((p2 &&& (255 : Int32)).toUInt32.toUInt16.toUInt32.toInt32))]) _
      obtain ⟨_, _, ⟨T4, L4, k4, n4⟩, -, X4, ⟨Lc4, hQ4, l4, y4, z4⟩, st4⟩ := Jvm.LawKit.callS X0 hx (y := (⟨"java/lang/String", "valueOf", "(C)Ljava/lang/String;"⟩ : MethodName)) hown (mvT hZ (hw _ (List.mem_of_getElem? (i := 56) rfl))) (mvT hZ (hw _ (List.mem_of_getElem? (i := 57) rfl))) (mvT hZ (hw _ (List.mem_of_getElem? (i := 5) rfl))) (mvT hZ (hw _ (List.mem_of_getElem? (i := 58) rfl))) (by decide) (backOf (W := 0) (rm9 l Z a0 hw [] ((p2 &&& (255 : Int32)).toUInt32.toUInt16.toUInt32.toInt32) a_COMPACT_STRINGS h0 n0 Z0 O0 S_COMPACT_STRINGS P_a_COMPACT_STRINGS (own_ch p2).1) hZ (hw _ (List.mem_of_getElem? (i := 58) rfl)) (hw _ (List.mem_of_getElem? (i := 5) rfl)) (by decide) (by decide)) (g := (mkF m 18 #[.val (.int p1), .val (.int p2), .val (.int p3), .unset] [(.int ((p2 &&& (255 : Int32)).toUInt32.toUInt16.toUInt32.toInt32))])) rfl (by rw [hml]; rfl) (argsL := [(.int ((p2 &&& (255 : Int32)).toUInt32.toUInt16.toUInt32.toInt32))]) (rest := []) (lenOf pd1_0 rfl) rfl (by show 2 * 0 + _ ≤ _; exact Nat.le_of_eq rfl) (hb hby d1_18) (fun _ _ => ⟨rfl, e0, (by decide : 0 + 2 ≤ _), (by decide : 0 + 5 ≤ _)⟩)
      dsimp only [Pt.U, Pt.locs, Pt.cells, Pt.slots] at X4 l4 y4 z4 st4 hQ4
      subst l4 y4 z4
      obtain ⟨b5, rfl, N4q, K4⟩ := hQ4
      have N4 := Fr.app N0 N4q
      refine go1 st4 ?_
      show Go p.tables e below T4 (mkF m 21 #[.val (.int p1), .val (.int p2), .val (.int p3), .unset] [(.ref b5)]) _
      refine goRW (s := s) (vm₁ := s.vm) X4 hS0 (Nat.le_trans (Nat.zero_le _) K4.1) (BodyLoose.notSynchronized Bd) (v := (some (.ref b5))) (fun h => by rw [Bd.returns] at h; cases h) (Q1 Z p1 p2 p3 a_COMPACT_STRINGS h0 n0) (fun fs hr => retOut X4 hx (t := (.object "java/lang/String")) (w := (.ref b5)) Bd.returns rfl (Or.inr (Or.inr (Or.inr (Or.inr ⟨rfl, rfl, rfl⟩)))) (hb hby d1_21) hr) (by decide) (by decide) ?_
      show Q1 Z p1 p2 p3 a_COMPACT_STRINGS h0 n0 _ T4.heap _
      exact ⟨b5, rfl, N4, ((Keep.refl h0 []).trans K4 all0)⟩
    · skip
      refine go1 (fun _ => XS.icmpYes X0.here hx rfl (pc0 := 9) (pc' := 22) rfl (hb hby d1_9) rfl (feq hc3).2 (by decide) (by decide)) ?_
      show Go p.tables e below s₁ (mkF m 22 #[.val (.int p1), .val (.int p2), .val (.int p3), .unset] []) _
      refine go1 (fun _ => XS.iconst X0.here hx rfl (hb hby d1_22)) ?_
      show Go p.tables e below s₁ (mkF m 23 #[.val (.int p1), .val (.int p2), .val (.int p3), .unset] [(.int (2 : Int32))]) _
      obtain ⟨T6, h6, k6, X6, e6, E6, A6, st6⟩ := newP X0 hx hZ (hw _ (List.mem_of_getElem? (i := 75) rfl)) e0 (g := (mkF m 23 #[.val (.int p1), .val (.int p2), .val (.int p3), .unset] [(.int (2 : Int32))])) rfl (hb hby d1_23) rfl (by decide) (cap := 2) (by decide) (by decide) (by decide) (by decide)
      obtain ⟨b6, g6⟩ : ∃ z, z = h0.size := ⟨_, rfl⟩
      rw [← g6] at A6 st6
      have g_b6 : n0 ≤ b6 := Nat.le_trans Z0 (Nat.le_of_eq g6.symm)
      have V_b6 : Arv Z h6 b6 k6 .char (2 : Int32) [] (.int 0) := Arv.new A6 (by decide)
      refine go1 st6 ?_
      show Go p.tables e below T6 (mkF m 25 #[.val (.int p1), .val (.int p2), .val (.int p3), .unset] [(.ref b6)]) _
      refine go1 (fun _ => XS.dup X6.here hx rfl (hb hby d1_25) rfl rfl) ?_
      show Go p.tables e below T6 (mkF m 26 #[.val (.int p1), .val (.int p2), .val (.int p3), .unset] [(.ref b6), (.ref b6)]) _
      refine go1 (fun _ => XS.iconst X6.here hx rfl (hb hby d1_26)) ?_
      show Go p.tables e below T6 (mkF m 27 #[.val (.int p1), .val (.int p2), .val (.int p3), .unset] [(.int (0 : Int32)), (.ref b6), (.ref b6)]) _
      refine go1 (fun _ => XS.iloadN X6.here hx rfl (hb hby d1_27) rfl) ?_
      show Go p.tables e below T6 (mkF m 28 #[.val (.int p1), .val (.int p2), .val (.int p3), .unset] [(.int p2), (.int (0 : Int32)), (.ref b6), (.ref b6)]) _
      refine go1 (fun _ => XS.sipush X6.here hx rfl (hb hby d1_28)) ?_
      show Go p.tables e below T6 (mkF m 31 #[.val (.int p1), .val (.int p2), .val (.int p3), .unset] [(.int (255 : Int32)), (.int p2), (.int (0 : Int32)), (.ref b6), (.ref b6)]) _
      refine go1 (fun _ => XS.iand X6.here hx rfl (hb hby d1_31) rfl) ?_
      show Go p.tables e below T6 (mkF m 32 #[.val (.int p1), .val (.int p2), .val (.int p3), .unset] [(.int (p2 &&& (255 : Int32))), (.int (0 : Int32)), (.ref b6), (.ref b6)]) _
      refine go1 (fun _ => XS.i2c X6.here hx rfl (hb hby d1_32) rfl) ?_
      show Go p.tables e below T6 (mkF m 33 #[.val (.int p1), .val (.int p2), .val (.int p3), .unset] [(.int ((p2 &&& (255 : Int32)).toUInt32.toUInt16.toUInt32.toInt32)), (.int (0 : Int32)), (.ref b6), (.ref b6)]) _
      have Vp6 : Arv Z h6 b6 k6 .char (2 : Int32) [.int 0, .int 0] (.int 0) := V_b6.pad (pad_rep [] (.int 0) 2)
      have vo7 := Vp6
      obtain ⟨cl7, Ar7, q7, S7, M7, H7, G7⟩ := vo7
      have hin7 := inb_of (j := (0 : Int32)) S7 ⟨by decide, by decide⟩
      obtain ⟨T7, h7, X7, e7, W7, st7⟩ := stC X6 hx hZ e6 Ar7 (j := (0 : Int32)) hin7 (g := (mkF m 33 #[.val (.int p1), .val (.int p2), .val (.int p3), .unset] [(.int ((p2 &&& (255 : Int32)).toUInt32.toUInt16.toUInt32.toInt32)), (.int (0 : Int32)), (.ref b6), (.ref b6)])) rfl rfl (hb hby d1_33)
      refine go1 st7 ?_
      have N7 := Fr.snoc X7 N0 g_b6
      have V7 : Arv Z h7 b6 k6 .char (2 : Int32) [.int (nar .char ((p2 &&& (255 : Int32)).toUInt32.toUInt16.toUInt32.toInt32)), .int 0] (.int 0) := Arv.set Ar7 q7 S7 M7 H7 G7 (fits_nar_char _) W7 0 rfl (by simp)
      show Go p.tables e below T7 (mkF m 34 #[.val (.int p1), .val (.int p2), .val (.int p3), .unset] [(.ref b6)]) _
      refine go1 (fun _ => XS.dup X7.here hx rfl (hb hby d1_34) rfl rfl) ?_
      show Go p.tables e below T7 (mkF m 35 #[.val (.int p1), .val (.int p2), .val (.int p3), .unset] [(.ref b6), (.ref b6)]) _
      refine go1 (fun _ => XS.iconst X7.here hx rfl (hb hby d1_35)) ?_
      show Go p.tables e below T7 (mkF m 36 #[.val (.int p1), .val (.int p2), .val (.int p3), .unset] [(.int (1 : Int32)), (.ref b6), (.ref b6)]) _
      refine go1 (fun _ => XS.iloadN X7.here hx rfl (hb hby d1_36) rfl) ?_
      show Go p.tables e below T7 (mkF m 37 #[.val (.int p1), .val (.int p2), .val (.int p3), .unset] [(.int p3), (.int (1 : Int32)), (.ref b6), (.ref b6)]) _
      refine go1 (fun _ => XS.sipush X7.here hx rfl (hb hby d1_37)) ?_
      show Go p.tables e below T7 (mkF m 40 #[.val (.int p1), .val (.int p2), .val (.int p3), .unset] [(.int (255 : Int32)), (.int p3), (.int (1 : Int32)), (.ref b6), (.ref b6)]) _
      refine go1 (fun _ => XS.iand X7.here hx rfl (hb hby d1_40) rfl) ?_
      show Go p.tables e below T7 (mkF m 41 #[.val (.int p1), .val (.int p2), .val (.int p3), .unset] [(.int (p3 &&& (255 : Int32))), (.int (1 : Int32)), (.ref b6), (.ref b6)]) _
      refine go1 (fun _ => XS.i2c X7.here hx rfl (hb hby d1_41) rfl) ?_
      show Go p.tables e below T7 (mkF m 42 #[.val (.int p1), .val (.int p2), .val (.int p3), .unset] [(.int ((p3 &&& (255 : Int32)).toUInt32.toUInt16.toUInt32.toInt32)), (.int (1 : Int32)), (.ref b6), (.ref b6)]) _
      have vo8 := V7
      obtain ⟨cl8, Ar8, q8, S8, M8, H8, G8⟩ := vo8
      have hin8 := inb_of (j := (1 : Int32)) S8 ⟨by decide, by decide⟩
      obtain ⟨T8, h8, X8, e8, W8, st8⟩ := stC X7 hx hZ e7 Ar8 (j := (1 : Int32)) hin8 (g := (mkF m 42 #[.val (.int p1), .val (.int p2), .val (.int p3), .unset] [(.int ((p3 &&& (255 : Int32)).toUInt32.toUInt16.toUInt32.toInt32)), (.int (1 : Int32)), (.ref b6), (.ref b6)])) rfl rfl (hb hby d1_42)
      refine go1 st8 ?_
      have N8 := Fr.snoc X8 N7 g_b6
      have V8 : Arv Z h8 b6 k6 .char (2 : Int32) [.int (nar .char ((p2 &&& (255 : Int32)).toUInt32.toUInt16.toUInt32.toInt32)), .int (nar .char ((p3 &&& (255 : Int32)).toUInt32.toUInt16.toUInt32.toInt32))] (.int 0) := Arv.set Ar8 q8 S8 M8 H8 G8 (fits_nar_char _) W8 1 rfl (by simp)
      show Go p.tables e below T8 (mkF m 43 #[.val (.int p1), .val (.int p2), .val (.int p3), .unset] [(.ref b6)]) _
      refine go1 (fun _ => XS.astoreN X8.here hx rfl (hb hby d1_43) rfl rfl (l' := #[.val (.int p1), .val (.int p2), .val (.int p3), .val (.ref b6)]) rfl) ?_
      show Go p.tables e below T8 (mkF m 44 #[.val (.int p1), .val (.int p2), .val (.int p3), .val (.ref b6)] []) _
      obtain ⟨T9, h9, X9, e9, E9, A9, D9, -, st9⟩ := newO X8 hx hZ hown (hw _ (List.mem_of_getElem? (i := 76) rfl)) (hw _ (List.mem_of_getElem? (i := 6) rfl)) (hw _ (List.mem_of_getElem? (i := 5) rfl)) e8 (g := (mkF m 44 #[.val (.int p1), .val (.int p2), .val (.int p3), .val (.ref b6)] [])) rfl (hb hby d1_44) (by decide) (by decide)
      obtain ⟨b9, g9⟩ : ∃ z, z = h8.size := ⟨_, rfl⟩
      rw [← g9] at A9 D9 st9
      have g_b9 : n0 ≤ b9 := Nat.le_trans (Nat.le_trans (Nat.le_trans (Nat.le_trans Z0 E6.1) (Keep.of_wr W7).1) (Keep.of_wr W8).1) (Nat.le_of_eq g9.symm)
      have F_value_b9 : Fld Z h9 b9 "java/lang/String" "value" "[B" .null := D9 (Or.inr (hw _ (List.mem_of_getElem? (i := 8) rfl))) (ty := (.array .byte)) (by decide)
      have F_coder_b9 : Fld Z h9 b9 "java/lang/String" "coder" "B" (.int (0 : Int32)) := D9 (Or.inr (hw _ (List.mem_of_getElem? (i := 9) rfl))) (ty := .byte) (by decide)
      refine go1 st9 ?_
      show Go p.tables e below T9 (mkF m 47 #[.val (.int p1), .val (.int p2), .val (.int p3), .val (.ref b6)] [(.ref b9)]) _
      refine go1 (fun _ => XS.dup X9.here hx rfl (hb hby d1_47) rfl rfl) ?_
      show Go p.tables e below T9 (mkF m 48 #[.val (.int p1), .val (.int p2), .val (.int p3), .val (.ref b6)] [(.ref b9), (.ref b9)]) _
      refine go1 (fun _ => XS.aloadN X9.here hx rfl (hb hby d1_48) rfl rfl) ?_
      show Go p.tables e below T9 (mkF m 49 #[.val (.int p1), .val (.int p2), .val (.int p3), .val (.ref b6)] [(.ref b6), (.ref b9), (.ref b9)]) _
      obtain ⟨_, _, ⟨T10, L10, k10, n10⟩, -, X10, ⟨Lc10, hQ10, l10, y10, z10⟩, st10⟩ := X9.specialBack hx (y := (⟨"java/lang/String", "<init>", "([C)V"⟩ : MethodName)) rfl hown (mvT hZ (hw _ (List.mem_of_getElem? (i := 77) rfl))) (mvT hZ (hw _ (List.mem_of_getElem? (i := 78) rfl))) (mvT hZ (hw _ (List.mem_of_getElem? (i := 79) rfl))) (by decide) (backOf (W := 1) (rm13 l Z a0 hw [] b9 b6 k6 (nar .char ((p2 &&& (255 : Int32)).toUInt32.toUInt16.toUInt32.toInt32)) (nar .char ((p3 &&& (255 : Int32)).toUInt32.toUInt16.toUInt32.toInt32)) a_COMPACT_STRINGS h9 n0 (Nat.le_trans (Nat.le_trans (Nat.le_trans (Nat.le_trans Z0 E6.1) (Keep.of_wr W7).1) (Keep.of_wr W8).1) E9.1) F_value_b9 F_coder_b9 A9 g_b9 ((((O0.ext E6).wr W7 g_b6).wr W8 g_b6).ext E9) S_COMPACT_STRINGS P_a_COMPACT_STRINGS (V8.ext E9) (Nat.ne_of_lt (Nat.lt_of_lt_of_le V8.lt (Nat.le_of_eq g9.symm))) (own_ch p2).2 (own_ch p3).2) hZ (hw _ (List.mem_of_getElem? (i := 79) rfl)) (hw _ (List.mem_of_getElem? (i := 5) rfl)) (by decide) (by decide)) (g := (mkF m 49 #[.val (.int p1), .val (.int p2), .val (.int p3), .val (.ref b6)] [(.ref b6), (.ref b9), (.ref b9)])) rfl (by rw [hml]; rfl) (Steps.refl _) (a := b9) (argsL := [(.ref b6)]) (rest := [(.ref b9)]) (lenOf pd1_1 rfl) rfl (by show 2 * 0 + _ ≤ _; exact Nat.le_of_eq rfl) (hb hby d1_49) (fun _ _ => ⟨rfl, e9, (by decide : 2 + 1 ≤ _), (by decide : 6 + 2 ≤ _)⟩)
      dsimp only [Pt.U, Pt.locs, Pt.cells, Pt.slots] at X10 l10 y10 z10 st10 hQ10
      subst l10 y10 z10
      obtain ⟨rfl, N10q, K10, G10_0⟩ := hQ10
      have N10 := Fr.app N8 N10q
      refine goT st10 ?_
      show Go p.tables e below T10 (mkF m 52 #[.val (.int p1), .val (.int p2), .val (.int p3), .val (.ref b6)] [(.ref b9)]) _
      refine goRW (s := s) (vm₁ := s.vm) X10 hS0 (Nat.le_trans (Nat.le_trans (Nat.le_trans (Nat.le_trans (Nat.le_trans (Nat.zero_le _) E6.1) (Keep.of_wr W7).1) (Keep.of_wr W8).1) E9.1) K10.1) (BodyLoose.notSynchronized Bd) (v := (some (.ref b9))) (fun h => by rw [Bd.returns] at h; cases h) (Q1 Z p1 p2 p3 a_COMPACT_STRINGS h0 n0) (fun fs hr => retOut X10 hx (t := (.object "java/lang/String")) (w := (.ref b9)) Bd.returns rfl (Or.inr (Or.inr (Or.inr (Or.inr ⟨rfl, rfl, rfl⟩)))) (hb hby d1_52) hr) (by decide) (by decide) ?_
      show Q1 Z p1 p2 p3 a_COMPACT_STRINGS h0 n0 _ T10.heap _
      exact ⟨b9, rfl, N10, ((((((Keep.refl h0 []).ext E6).wr W7 (Or.inr (Nat.le_trans (Nat.le_refl h0.size) (Nat.le_of_eq g6.symm)))).wr W8 (Or.inr (Nat.le_trans (Nat.le_refl h0.size) (Nat.le_of_eq g6.symm)))).ext E9).trans K10 (allS (Or.inr (Nat.le_trans (Nat.le_trans (Nat.le_trans (Nat.le_trans (Nat.le_refl h0.size) E6.1) (Keep.of_wr W7).1) (Keep.of_wr W8).1) (Nat.le_of_eq g9.symm))) all0))⟩
theorem d2_0 : decode prog_11_method_1_code 0 = .ok (.aload_n 0, 1) := by decide +kernel
theorem d2_1 : decode prog_11_method_1_code 1 = .ok (.invokespecial 1, 3) := by decide +kernel
theorem d2_4 : decode prog_11_method_1_code 4 = .ok (.aload_n 0, 1) := by decide +kernel
theorem d2_5 : decode prog_11_method_1_code 5 = .ok (.aload_n 1, 1) := by decide +kernel
theorem d2_6 : decode prog_11_method_1_code 6 = .ok (.putfield 7, 3) := by decide +kernel
theorem d2_9 : decode prog_11_method_1_code 9 = .ok (.aload_n 0, 1) := by decide +kernel
theorem d2_10 : decode prog_11_method_1_code 10 = .ok (.aload_n 2, 1) := by decide +kernel
theorem d2_11 : decode prog_11_method_1_code 11 = .ok (.putfield 13, 3) := by decide +kernel
theorem d2_14 : decode prog_11_method_1_code 14 = .ok (.aload_n 0, 1) := by decide +kernel
theorem d2_15 : decode prog_11_method_1_code 15 = .ok (.aload_n 3, 1) := by decide +kernel
theorem d2_16 : decode prog_11_method_1_code 16 = .ok (.putfield 16, 3) := by decide +kernel
theorem d2_19 : decode prog_11_method_1_code 19 = .ok (.aload_n 0, 1) := by decide +kernel
theorem d2_20 : decode prog_11_method_1_code 20 = .ok (.aload 4, 2) := by decide +kernel
theorem d2_22 : decode prog_11_method_1_code 22 = .ok (.putfield 19, 3) := by decide +kernel
theorem d2_25 : decode prog_11_method_1_code 25 = .ok (.aload_n 0, 1) := by decide +kernel
theorem d2_26 : decode prog_11_method_1_code 26 = .ok (.iload 5, 2) := by decide +kernel
theorem d2_28 : decode prog_11_method_1_code 28 = .ok (.putfield 22, 3) := by decide +kernel
theorem d2_31 : decode prog_11_method_1_code 31 = .ok (.aload_n 0, 1) := by decide +kernel
theorem d2_32 : decode prog_11_method_1_code 32 = .ok (.iload 6, 2) := by decide +kernel
theorem d2_34 : decode prog_11_method_1_code 34 = .ok (.putfield 26, 3) := by decide +kernel
theorem d2_37 : decode prog_11_method_1_code 37 = .ok (.aload_n 0, 1) := by decide +kernel
theorem d2_38 : decode prog_11_method_1_code 38 = .ok (.iload 7, 2) := by decide +kernel
theorem d2_40 : decode prog_11_method_1_code 40 = .ok (.putfield 29, 3) := by decide +kernel
theorem d2_43 : decode prog_11_method_1_code 43 = .ok (.return_, 1) := by decide +kernel
theorem pn_2 : plainName "com/example/enrout/enrout/broker/cli/Option" = true := by first | (simp [plainName, overriddenIn]; done) | decide +kernel
theorem pd2_0 : parseMethodDescriptor "()V" = some ⟨[], none⟩ := by decide +kernel
theorem ef_2 (m : MethodId) (b1 : Addr) (u1 : Value) (u2 : Value) (u3 : Value) (u4 : Value) (p5 : Int32) (p6 : Int32) (p7 : Int32) (hu1 : u1.isRef = true) (hu2 : u2.isRef = true) (hu3 : u3.isRef = true) (hu4 : u4.isRef = true) : entryFrame m #[(.ref b1), u1, u2, u3, u4, (.int p5), (.int p6), (.int p7)] 8 = mkF m 0 #[.val (.ref b1), .val u1, .val u2, .val u3, .val u4, .val (.int p5), .val (.int p6), .val (.int p7)] [] := by
  rcases ref_cases hu1 with rfl | ⟨zu1, rfl⟩
  all_goals (rcases ref_cases hu2 with rfl | ⟨zu2, rfl⟩)
  all_goals (rcases ref_cases hu3 with rfl | ⟨zu3, rfl⟩)
  all_goals (rcases ref_cases hu4 with rfl | ⟨zu4, rfl⟩)
  all_goals (first | (simp [entryFrame, mkF, argsToLocals, Value.category]; done) | rfl)
def Q2 (Z : State) (b1 : Addr) (u1 : Value) (u2 : Value) (u3 : Value) (u4 : Value) (p5 : Int32) (p6 : Int32) (p7 : Int32) (h0 : Heap) (n0 : Nat) (v : Option Value) (h : Heap) (L : List Loc) : Prop := v = none ∧ Fr n0 L ∧ Keep h0 h [b1] ∧ Exa Z h b1 "com/example/enrout/enrout/broker/cli/Option" ∧ Fld Z h b1 "com/example/enrout/enrout/broker/cli/Option" "value" "Ljava/lang/String;" u2
set_option maxRecDepth 65536 in
set_option maxHeartbeats 40000000 in
theorem rm2 (l : Launch) (Z : State) (a0 : Array Value) (hw : ∀ d ∈ tables_1, d.before a0 Z = true) (ws : List Jvm.Cond) (b1 : Addr) (u1 : Value) (u2 : Value) (u3 : Value) (u4 : Value) (p5 : Int32) (p6 : Int32) (p7 : Int32) (h0 : Heap) (n0 : Nat) (Z0 : n0 ≤ h0.size) (F_name_b1 : Fld Z h0 b1 "com/example/enrout/enrout/broker/cli/Option" "name" "Ljava/lang/String;" .null) (F_value_b1 : Fld Z h0 b1 "com/example/enrout/enrout/broker/cli/Option" "value" "Ljava/lang/String;" .null) (F_help_b1 : Fld Z h0 b1 "com/example/enrout/enrout/broker/cli/Option" "help" "Ljava/lang/String;" .null) (F_defaultValue_b1 : Fld Z h0 b1 "com/example/enrout/enrout/broker/cli/Option" "defaultValue" "Ljava/lang/String;" .null) (F_required_b1 : Fld Z h0 b1 "com/example/enrout/enrout/broker/cli/Option" "required" "Z" (.int (0 : Int32))) (F_repeatable_b1 : Fld Z h0 b1 "com/example/enrout/enrout/broker/cli/Option" "repeatable" "Z" (.int (0 : Int32))) (F_several_b1 : Fld Z h0 b1 "com/example/enrout/enrout/broker/cli/Option" "several" "Z" (.int (0 : Int32))) (E_b1 : Exa Z h0 b1 "com/example/enrout/enrout/broker/cli/Option") (g_b1 : n0 ≤ b1) (hu1 : u1.isRef = true) (hu2 : u2.isRef = true) (hu3 : u3.isRef = true) (hu4 : u4.isRef = true) :
    MetFree l (⟨"com/example/enrout/enrout/broker/cli/Option", "<init>", "(Ljava/lang/String;Ljava/lang/String;Ljava/lang/String;Ljava/lang/String;ZZZ)V"⟩ : MethodName) (head1 (Jvm.Cond.code (⟨"com/example/enrout/enrout/broker/cli/Option", "<init>", "(Ljava/lang/String;Ljava/lang/String;Ljava/lang/String;Ljava/lang/String;ZZZ)V"⟩ : MethodName) prog_11_method_1_code 8 none :: ws) ({ frames := 2, cells := 0, slots := 0, locals := 24 } : Room)) (fun a U => a = #[(.ref b1), u1, u2, u3, u4, (.int p5), (.int p6), (.int p7)] ∧ Z.Warmed39 U.vm ∧ U.heap = h0) (fun _ _ _ _ _ => True) (fun _ U o U' => ∃ v L, o = .returned v ∧ Q2 Z b1 u1 u2 u3 u4 p5 p6 p7 h0 n0 v U'.heap L ∧ FrameEnd U o U' L ({ frames := 2, cells := 0, slots := 0, locals := 24 } : Room).cells ({ frames := 2, cells := 0, slots := 0, locals := 24 } : Room).slots) := by
  refine MetFree.of_bodySF (plainFor_of_name pn_2) hisR ?_
  intro p e s m args below meth c s₁ Bd hml0 hP hK
  obtain ⟨rfl, hZ, hh⟩ := hP
  have hx := Bd.exec
  have hby := Bd.bytes
  have hml : c.maxLocals = 8 := hml0
  have hown : s.vm.findClass "com/example/enrout/enrout/broker/cli/Option" = some m.cls := findClass_of_methodNamed Bd.named
  have hnm := (name_of_methodNamed Bd.named Bd.method).1
  have X0 : Stand p l e ({ frames := 2, cells := 0, slots := 0, locals := 24 } : Room) s m #[(.ref b1), u1, u2, u3, u4, (.int p5), (.int p6), (.int p7)] below meth c s₁ [] 0 0 := Stand.of_body Bd
  have e0 : s₁.heap = h0 := by rw [← hh, Bd.state]; rfl
  have N0 := Fr.nil n0
  refine goB (ef_2 m b1 u1 u2 u3 u4 p5 p6 p7 hu1 hu2 hu3 hu4) ?_
  show Go p.tables e below s₁ (mkF m 0 #[.val (.ref b1), .val u1, .val u2, .val u3, .val u4, .val (.int p5), .val (.int p6), .val (.int p7)] []) _
  refine go1 (fun _ => XS.aloadN X0.here hx rfl (hb hby d2_0) rfl rfl) ?_
  show Go p.tables e below s₁ (mkF m 1 #[.val (.ref b1), .val u1, .val u2, .val u3, .val u4, .val (.int p5), .val (.int p6), .val (.int p7)] [(.ref b1)]) _
  obtain ⟨_, _, ⟨T1, L1, k1, n1⟩, -, X1, ⟨Lc1, hQ1, l1, y1, z1⟩, st1⟩ := X0.specialBack hx (y := (⟨"java/lang/Record", "<init>", "()V"⟩ : MethodName)) rfl hown (mvT hZ (hw _ (List.mem_of_getElem? (i := 18) rfl))) (mvT hZ (hw _ (List.mem_of_getElem? (i := 19) rfl))) (mvT hZ (hw _ (List.mem_of_getElem? (i := 22) rfl))) (by decide) (backOf (W := 0) (rm3 l Z a0 hw [] b1 h0 n0 Z0 ) hZ (hw _ (List.mem_of_getElem? (i := 22) rfl)) (hw _ (List.mem_of_getElem? (i := 21) rfl)) (by decide) (by decide)) (g := (mkF m 1 #[.val (.ref b1), .val u1, .val u2, .val u3, .val u4, .val (.int p5), .val (.int p6), .val (.int p7)] [(.ref b1)])) rfl (by rw [hml]; rfl) (Steps.refl _) (a := b1) (argsL := []) (rest := []) (lenOf pd2_0 rfl) rfl (by show 2 * 0 + _ ≤ _; exact Nat.le_of_eq rfl) (hb hby d2_1) (fun _ _ => ⟨rfl, e0, (by decide : 0 + 0 ≤ _), (by decide : 0 + 0 ≤ _)⟩)
  dsimp only [Pt.U, Pt.locs, Pt.cells, Pt.slots] at X1 l1 y1 z1 st1 hQ1
  subst l1 y1 z1
  obtain ⟨rfl, N1q, e1⟩ := hQ1
  have N1 := Fr.app N0 N1q
  refine goT st1 ?_
  show Go p.tables e below T1 (mkF m 4 #[.val (.ref b1), .val u1, .val u2, .val u3, .val u4, .val (.int p5), .val (.int p6), .val (.int p7)] []) _
  refine go1 (fun _ => XS.aloadN X1.here hx rfl (hb hby d2_4) rfl rfl) ?_
  show Go p.tables e below T1 (mkF m 5 #[.val (.ref b1), .val u1, .val u2, .val u3, .val u4, .val (.int p5), .val (.int p6), .val (.int p7)] [(.ref b1)]) _
  refine go1 (fun _ => XS.aloadN X1.here hx rfl (hb hby d2_5) rfl hu1) ?_
  show Go p.tables e below T1 (mkF m 6 #[.val (.ref b1), .val u1, .val u2, .val u3, .val u4, .val (.int p5), .val (.int p6), .val (.int p7)] [u1, (.ref b1)]) _
  obtain ⟨T2, h2, X2, e2, W2, st2⟩ := putF X1 hx hZ hown (host := "") (Or.inl (hw _ (List.mem_of_getElem? (i := 26) rfl))) Via.refl e1 F_name_b1 E_b1 (Or.inr ⟨(hw _ (List.mem_of_getElem? (i := 27) rfl)), rfl, hnm⟩) (hw _ (List.mem_of_getElem? (i := 13) rfl)) (ty := (.object "java/lang/String")) (by decide) rfl (fitsG hu1) (g := (mkF m 6 #[.val (.ref b1), .val u1, .val u2, .val u3, .val u4, .val (.int p5), .val (.int p6), .val (.int p7)] [u1, (.ref b1)])) rfl rfl (hb hby d2_6)
  refine go1 st2 ?_
  have Fw2 := F_name_b1.same W2
  have N2 := Fr.snoc X2 N1 g_b1
  show Go p.tables e below T2 (mkF m 9 #[.val (.ref b1), .val u1, .val u2, .val u3, .val u4, .val (.int p5), .val (.int p6), .val (.int p7)] []) _
  refine go1 (fun _ => XS.aloadN X2.here hx rfl (hb hby d2_9) rfl rfl) ?_
  show Go p.tables e below T2 (mkF m 10 #[.val (.ref b1), .val u1, .val u2, .val u3, .val u4, .val (.int p5), .val (.int p6), .val (.int p7)] [(.ref b1)]) _
  refine go1 (fun _ => XS.aloadN X2.here hx rfl (hb hby d2_10) rfl hu2) ?_
  show Go p.tables e below T2 (mkF m 11 #[.val (.ref b1), .val u1, .val u2, .val u3, .val u4, .val (.int p5), .val (.int p6), .val (.int p7)] [u2, (.ref b1)]) _
  obtain ⟨T3, h3, X3, e3, W3, st3⟩ := putF X2 hx hZ hown (host := "") (Or.inl (hw _ (List.mem_of_getElem? (i := 28) rfl))) Via.refl e2 (F_value_b1.other W2 (Or.inr (slot_ne (Or.inr (hw _ (List.mem_of_getElem? (i := 29) rfl))) (Or.inr (hw _ (List.mem_of_getElem? (i := 27) rfl))) (by decide) (t := (.object "java/lang/String")) (t' := (.object "java/lang/String")) (by decide) (by decide)))) (E_b1.wr W2) (Or.inr ⟨(hw _ (List.mem_of_getElem? (i := 29) rfl)), rfl, hnm⟩) (hw _ (List.mem_of_getElem? (i := 13) rfl)) (ty := (.object "java/lang/String")) (by decide) rfl (fitsG hu2) (g := (mkF m 11 #[.val (.ref b1), .val u1, .val u2, .val u3, .val u4, .val (.int p5), .val (.int p6), .val (.int p7)] [u2, (.ref b1)])) rfl rfl (hb hby d2_11)
  refine go1 st3 ?_
  have Fw3 := (F_value_b1.other W2 (Or.inr (slot_ne (Or.inr (hw _ (List.mem_of_getElem? (i := 29) rfl))) (Or.inr (hw _ (List.mem_of_getElem? (i := 27) rfl))) (by decide) (t := (.object "java/lang/String")) (t' := (.object "java/lang/String")) (by decide) (by decide)))).same W3
  have N3 := Fr.snoc X3 N2 g_b1
  show Go p.tables e below T3 (mkF m 14 #[.val (.ref b1), .val u1, .val u2, .val u3, .val u4, .val (.int p5), .val (.int p6), .val (.int p7)] []) _
  refine go1 (fun _ => XS.aloadN X3.here hx rfl (hb hby d2_14) rfl rfl) ?_
  show Go p.tables e below T3 (mkF m 15 #[.val (.ref b1), .val u1, .val u2, .val u3, .val u4, .val (.int p5), .val (.int p6), .val (.int p7)] [(.ref b1)]) _
  refine go1 (fun _ => XS.aloadN X3.here hx rfl (hb hby d2_15) rfl hu3) ?_
  show Go p.tables e below T3 (mkF m 16 #[.val (.ref b1), .val u1, .val u2, .val u3, .val u4, .val (.int p5), .val (.int p6), .val (.int p7)] [u3, (.ref b1)]) _
  obtain ⟨T4, h4, X4, e4, W4, st4⟩ := putF X3 hx hZ hown (host := "") (Or.inl (hw _ (List.mem_of_getElem? (i := 30) rfl))) Via.refl e3 ((F_help_b1.other W2 (Or.inr (slot_ne (Or.inr (hw _ (List.mem_of_getElem? (i := 31) rfl))) (Or.inr (hw _ (List.mem_of_getElem? (i := 27) rfl))) (by decide) (t := (.object "java/lang/String")) (t' := (.object "java/lang/String")) (by decide) (by decide)))).other W3 (Or.inr (slot_ne (Or.inr (hw _ (List.mem_of_getElem? (i := 31) rfl))) (Or.inr (hw _ (List.mem_of_getElem? (i := 29) rfl))) (by decide) (t := (.object "java/lang/String")) (t' := (.object "java/lang/String")) (by decide) (by decide)))) ((E_b1.wr W2).wr W3) (Or.inr ⟨(hw _ (List.mem_of_getElem? (i := 31) rfl)), rfl, hnm⟩) (hw _ (List.mem_of_getElem? (i := 13) rfl)) (ty := (.object "java/lang/String")) (by decide) rfl (fitsG hu3) (g := (mkF m 16 #[.val (.ref b1), .val u1, .val u2, .val u3, .val u4, .val (.int p5), .val (.int p6), .val (.int p7)] [u3, (.ref b1)])) rfl rfl (hb hby d2_16)
  refine go1 st4 ?_
  have Fw4 := ((F_help_b1.other W2 (Or.inr (slot_ne (Or.inr (hw _ (List.mem_of_getElem? (i := 31) rfl))) (Or.inr (hw _ (List.mem_of_getElem? (i := 27) rfl))) (by decide) (t := (.object "java/lang/String")) (t' := (.object "java/lang/String")) (by decide) (by decide)))).other W3 (Or.inr (slot_ne (Or.inr (hw _ (List.mem_of_getElem? (i := 31) rfl))) (Or.inr (hw _ (List.mem_of_getElem? (i := 29) rfl))) (by decide) (t := (.object "java/lang/String")) (t' := (.object "java/lang/String")) (by decide) (by decide)))).same W4
  have N4 := Fr.snoc X4 N3 g_b1
  show Go p.tables e below T4 (mkF m 19 #[.val (.ref b1), .val u1, .val u2, .val u3, .val u4, .val (.int p5), .val (.int p6), .val (.int p7)] []) _
  refine go1 (fun _ => XS.aloadN X4.here hx rfl (hb hby d2_19) rfl rfl) ?_
  show Go p.tables e below T4 (mkF m 20 #[.val (.ref b1), .val u1, .val u2, .val u3, .val u4, .val (.int p5), .val (.int p6), .val (.int p7)] [(.ref b1)]) _
  refine go1 (fun _ => XS.aload X4.here hx rfl (hb hby d2_20) rfl hu4) ?_
  show Go p.tables e below T4 (mkF m 22 #[.val (.ref b1), .val u1, .val u2, .val u3, .val u4, .val (.int p5), .val (.int p6), .val (.int p7)] [u4, (.ref b1)]) _
  obtain ⟨T5, h5, X5, e5, W5, st5⟩ := putF X4 hx hZ hown (host := "") (Or.inl (hw _ (List.mem_of_getElem? (i := 32) rfl))) Via.refl e4 (((F_defaultValue_b1.other W2 (Or.inr (slot_ne (Or.inr (hw _ (List.mem_of_getElem? (i := 33) rfl))) (Or.inr (hw _ (List.mem_of_getElem? (i := 27) rfl))) (by decide) (t := (.object "java/lang/String")) (t' := (.object "java/lang/String")) (by decide) (by decide)))).other W3 (Or.inr (slot_ne (Or.inr (hw _ (List.mem_of_getElem? (i := 33) rfl))) (Or.inr (hw _ (List.mem_of_getElem? (i := 29) rfl))) (by decide) (t := (.object "java/lang/String")) (t' := (.object "java/lang/String")) (by decide) (by decide)))).other W4 (Or.inr (slot_ne (Or.inr (hw _ (List.mem_of_getElem? (i := 33) rfl))) (Or.inr (hw _ (List.mem_of_getElem? (i := 31) rfl))) (by decide) (t := (.object "java/lang/String")) (t' := (.object "java/lang/String")) (by decide) (by decide)))) (((E_b1.wr W2).wr W3).wr W4) (Or.inr ⟨(hw _ (List.mem_of_getElem? (i := 33) rfl)), rfl, hnm⟩) (hw _ (List.mem_of_getElem? (i := 13) rfl)) (ty := (.object "java/lang/String")) (by decide) rfl (fitsG hu4) (g := (mkF m 22 #[.val (.ref b1), .val u1, .val u2, .val u3, .val u4, .val (.int p5), .val (.int p6), .val (.int p7)] [u4, (.ref b1)])) rfl rfl (hb hby d2_22)
  refine go1 st5 ?_
  have Fw5 := (((F_defaultValue_b1.other W2 (Or.inr (slot_ne (Or.inr (hw _ (List.mem_of_getElem? (i := 33) rfl))) (Or.inr (hw _ (List.mem_of_getElem? (i := 27) rfl))) (by decide) (t := (.object "java/lang/String")) (t' := (.object "java/lang/String")) (by decide) (by decide)))).other W3 (Or.inr (slot_ne (Or.inr (hw _ (List.mem_of_getElem? (i := 33) rfl))) (Or.inr (hw _ (List.mem_of_getElem? (i := 29) rfl))) (by decide) (t := (.object "java/lang/String")) (t' := (.object "java/lang/String")) (by decide) (by decide)))).other W4 (Or.inr (slot_ne (Or.inr (hw _ (List.mem_of_getElem? (i := 33) rfl))) (Or.inr (hw _ (List.mem_of_getElem? (i := 31) rfl))) (by decide) (t := (.object "java/lang/String")) (t' := (.object "java/lang/String")) (by decide) (by decide)))).same W5
  have N5 := Fr.snoc X5 N4 g_b1
  show Go p.tables e below T5 (mkF m 25 #[.val (.ref b1), .val u1, .val u2, .val u3, .val u4, .val (.int p5), .val (.int p6), .val (.int p7)] []) _
  refine go1 (fun _ => XS.aloadN X5.here hx rfl (hb hby d2_25) rfl rfl) ?_
  show Go p.tables e below T5 (mkF m 26 #[.val (.ref b1), .val u1, .val u2, .val u3, .val u4, .val (.int p5), .val (.int p6), .val (.int p7)] [(.ref b1)]) _
  refine go1 (fun _ => XS.iload X5.here hx rfl (hb hby d2_26) rfl) ?_
  show Go p.tables e below T5 (mkF m 28 #[.val (.ref b1), .val u1, .val u2, .val u3, .val u4, .val (.int p5), .val (.int p6), .val (.int p7)] [(.int p5), (.ref b1)]) _
  obtain ⟨T6, h6, X6, e6, W6, st6⟩ := putFN X5 hx hZ hown (hw _ (List.mem_of_getElem? (i := 34) rfl)) Via.refl e5 ((((F_required_b1.other W2 (Or.inr (slot_ne (Or.inr (hw _ (List.mem_of_getElem? (i := 35) rfl))) (Or.inr (hw _ (List.mem_of_getElem? (i := 27) rfl))) (by decide) (t := .boolean) (t' := (.object "java/lang/String")) (by decide) (by decide)))).other W3 (Or.inr (slot_ne (Or.inr (hw _ (List.mem_of_getElem? (i := 35) rfl))) (Or.inr (hw _ (List.mem_of_getElem? (i := 29) rfl))) (by decide) (t := .boolean) (t' := (.object "java/lang/String")) (by decide) (by decide)))).other W4 (Or.inr (slot_ne (Or.inr (hw _ (List.mem_of_getElem? (i := 35) rfl))) (Or.inr (hw _ (List.mem_of_getElem? (i := 31) rfl))) (by decide) (t := .boolean) (t' := (.object "java/lang/String")) (by decide) (by decide)))).other W5 (Or.inr (slot_ne (Or.inr (hw _ (List.mem_of_getElem? (i := 35) rfl))) (Or.inr (hw _ (List.mem_of_getElem? (i := 33) rfl))) (by decide) (t := .boolean) (t' := (.object "java/lang/String")) (by decide) (by decide)))) ((((E_b1.wr W2).wr W3).wr W4).wr W5) (Or.inr ⟨(hw _ (List.mem_of_getElem? (i := 35) rfl)), rfl, hnm⟩) (hw _ (List.mem_of_getElem? (i := 13) rfl)) (ty := .boolean) (v' := (.int (nar .boolean p5))) (by decide) rfl (fits_nar_bool _) (g := (mkF m 28 #[.val (.ref b1), .val u1, .val u2, .val u3, .val u4, .val (.int p5), .val (.int p6), .val (.int p7)] [(.int p5), (.ref b1)])) rfl rfl (hb hby d2_28)
  refine go1 st6 ?_
  have Fw6 := ((((F_required_b1.other W2 (Or.inr (slot_ne (Or.inr (hw _ (List.mem_of_getElem? (i := 35) rfl))) (Or.inr (hw _ (List.mem_of_getElem? (i := 27) rfl))) (by decide) (t := .boolean) (t' := (.object "java/lang/String")) (by decide) (by decide)))).other W3 (Or.inr (slot_ne (Or.inr (hw _ (List.mem_of_getElem? (i := 35) rfl))) (Or.inr (hw _ (List.mem_of_getElem? (i := 29) rfl))) (by decide) (t := .boolean) (t' := (.object "java/lang/String")) (by decide) (by decide)))).other W4 (Or.inr (slot_ne (Or.inr (hw _ (List.mem_of_getElem? (i := 35) rfl))) (Or.inr (hw _ (List.mem_of_getElem? (i := 31) rfl))) (by decide) (t := .boolean) (t' := (.object "java/lang/String")) (by decide) (by decide)))).other W5 (Or.inr (slot_ne (Or.inr (hw _ (List.mem_of_getElem? (i := 35) rfl))) (Or.inr (hw _ (List.mem_of_getElem? (i := 33) rfl))) (by decide) (t := .boolean) (t' := (.object "java/lang/String")) (by decide) (by decide)))).same W6
  have N6 := Fr.snoc X6 N5 g_b1
  show Go p.tables e below T6 (mkF m 31 #[.val (.ref b1), .val u1, .val u2, .val u3, .val u4, .val (.int p5), .val (.int p6), .val (.int p7)] []) _
  refine go1 (fun _ => XS.aloadN X6.here hx rfl (hb hby d2_31) rfl rfl) ?_
  show Go p.tables e below T6 (mkF m 32 #[.val (.ref b1), .val u1, .val u2, .val u3, .val u4, .val (.int p5), .val (.int p6), .val (.int p7)] [(.ref b1)]) _
  refine go1 (fun _ => XS.iload X6.here hx rfl (hb hby d2_32) rfl) ?_
  show Go p.tables e below T6 (mkF m 34 #[.val (.ref b1), .val u1, .val u2, .val u3, .val u4, .val (.int p5), .val (.int p6), .val (.int p7)] [(.int p6), (.ref b1)]) _
  obtain ⟨T7, h7, X7, e7, W7, st7⟩ := putFN X6 hx hZ hown (hw _ (List.mem_of_getElem? (i := 36) rfl)) Via.refl e6 (((((F_repeatable_b1.other W2 (Or.inr (slot_ne (Or.inr (hw _ (List.mem_of_getElem? (i := 37) rfl))) (Or.inr (hw _ (List.mem_of_getElem? (i := 27) rfl))) (by decide) (t := .boolean) (t' := (.object "java/lang/String")) (by decide) (by decide)))).other W3 (Or.inr (slot_ne (Or.inr (hw _ (List.mem_of_getElem? (i := 37) rfl))) (Or.inr (hw _ (List.mem_of_getElem? (i := 29) rfl))) (by decide) (t := .boolean) (t' := (.object "java/lang/String")) (by decide) (by decide)))).other W4 (Or.inr (slot_ne (Or.inr (hw _ (List.mem_of_getElem? (i := 37) rfl))) (Or.inr (hw _ (List.mem_of_getElem? (i := 31) rfl))) (by decide) (t := .boolean) (t' := (.object "java/lang/String")) (by decide) (by decide)))).other W5 (Or.inr (slot_ne (Or.inr (hw _ (List.mem_of_getElem? (i := 37) rfl))) (Or.inr (hw _ (List.mem_of_getElem? (i := 33) rfl))) (by decide) (t := .boolean) (t' := (.object "java/lang/String")) (by decide) (by decide)))).other W6 (Or.inr (slot_ne (Or.inr (hw _ (List.mem_of_getElem? (i := 37) rfl))) (Or.inr (hw _ (List.mem_of_getElem? (i := 35) rfl))) (by decide) (t := .boolean) (t' := .boolean) (by decide) (by decide)))) (((((E_b1.wr W2).wr W3).wr W4).wr W5).wr W6) (Or.inr ⟨(hw _ (List.mem_of_getElem? (i := 37) rfl)), rfl, hnm⟩) (hw _ (List.mem_of_getElem? (i := 13) rfl)) (ty := .boolean) (v' := (.int (nar .boolean p6))) (by decide) rfl (fits_nar_bool _) (g := (mkF m 34 #[.val (.ref b1), .val u1, .val u2, .val u3, .val u4, .val (.int p5), .val (.int p6), .val (.int p7)] [(.int p6), (.ref b1)])) rfl rfl (hb hby d2_34)
  refine go1 st7 ?_
  have Fw7 := (((((F_repeatable_b1.other W2 (Or.inr (slot_ne (Or.inr (hw _ (List.mem_of_getElem? (i := 37) rfl))) (Or.inr (hw _ (List.mem_of_getElem? (i := 27) rfl))) (by decide) (t := .boolean) (t' := (.object "java/lang/String")) (by decide) (by decide)))).other W3 (Or.inr (slot_ne (Or.inr (hw _ (List.mem_of_getElem? (i := 37) rfl))) (Or.inr (hw _ (List.mem_of_getElem? (i := 29) rfl))) (by decide) (t := .boolean) (t' := (.object "java/lang/String")) (by decide) (by decide)))).other W4 (Or.inr (slot_ne (Or.inr (hw _ (List.mem_of_getElem? (i := 37) rfl))) (Or.inr (hw _ (List.mem_of_getElem? (i := 31) rfl))) (by decide) (t := .boolean) (t' := (.object "java/lang/String")) (by decide) (by decide)))).other W5 (Or.inr (slot_ne (Or.inr (hw _ (List.mem_of_getElem? (i := 37) rfl))) (Or.inr (hw _ (List.mem_of_getElem? (i := 33) rfl))) (by decide) (t := .boolean) (t' := (.object "java/lang/String")) (by decide) (by decide)))).other W6 (Or.inr (slot_ne (Or.inr (hw _ (List.mem_of_getElem? (i := 37) rfl))) (Or.inr (hw _ (List.mem_of_getElem? (i := 35) rfl))) (by decide) (t := .boolean) (t' := .boolean) (by decide) (by decide)))).same W7
  have N7 := Fr.snoc X7 N6 g_b1
  show Go p.tables e below T7 (mkF m 37 #[.val (.ref b1), .val u1, .val u2, .val u3, .val u4, .val (.int p5), .val (.int p6), .val (.int p7)] []) _
  refine go1 (fun _ => XS.aloadN X7.here hx rfl (hb hby d2_37) rfl rfl) ?_
  show Go p.tables e below T7 (mkF m 38 #[.val (.ref b1), .val u1, .val u2, .val u3, .val u4, .val (.int p5), .val (.int p6), .val (.int p7)] [(.ref b1)]) _
  refine go1 (fun _ => XS.iload X7.here hx rfl (hb hby d2_38) rfl) ?_
  show Go p.tables e below T7 (mkF m 40 #[.val (.ref b1), .val u1, .val u2, .val u3, .val u4, .val (.int p5), .val (.int p6), .val (.int p7)] [(.int p7), (.ref b1)]) _
  obtain ⟨T8, h8, X8, e8, W8, st8⟩ := putFN X7 hx hZ hown (hw _ (List.mem_of_getElem? (i := 38) rfl)) Via.refl e7 ((((((F_several_b1.other W2 (Or.inr (slot_ne (Or.inr (hw _ (List.mem_of_getElem? (i := 39) rfl))) (Or.inr (hw _ (List.mem_of_getElem? (i := 27) rfl))) (by decide) (t := .boolean) (t' := (.object "java/lang/String")) (by decide) (by decide)))).other W3 (Or.inr (slot_ne (Or.inr (hw _ (List.mem_of_getElem? (i := 39) rfl))) (Or.inr (hw _ (List.mem_of_getElem? (i := 29) rfl))) (by decide) (t := .boolean) (t' := (.object "java/lang/String")) (by decide) (by decide)))).other W4 (Or.inr (slot_ne (Or.inr (hw _ (List.mem_of_getElem? (i := 39) rfl))) (Or.inr (hw _ (List.mem_of_getElem? (i := 31) rfl))) (by decide) (t := .boolean) (t' := (.object "java/lang/String")) (by decide) (by decide)))).other W5 (Or.inr (slot_ne (Or.inr (hw _ (List.mem_of_getElem? (i := 39) rfl))) (Or.inr (hw _ (List.mem_of_getElem? (i := 33) rfl))) (by decide) (t := .boolean) (t' := (.object "java/lang/String")) (by decide) (by decide)))).other W6 (Or.inr (slot_ne (Or.inr (hw _ (List.mem_of_getElem? (i := 39) rfl))) (Or.inr (hw _ (List.mem_of_getElem? (i := 35) rfl))) (by decide) (t := .boolean) (t' := .boolean) (by decide) (by decide)))).other W7 (Or.inr (slot_ne (Or.inr (hw _ (List.mem_of_getElem? (i := 39) rfl))) (Or.inr (hw _ (List.mem_of_getElem? (i := 37) rfl))) (by decide) (t := .boolean) (t' := .boolean) (by decide) (by decide)))) ((((((E_b1.wr W2).wr W3).wr W4).wr W5).wr W6).wr W7) (Or.inr ⟨(hw _ (List.mem_of_getElem? (i := 39) rfl)), rfl, hnm⟩) (hw _ (List.mem_of_getElem? (i := 13) rfl)) (ty := .boolean) (v' := (.int (nar .boolean p7))) (by decide) rfl (fits_nar_bool _) (g := (mkF m 40 #[.val (.ref b1), .val u1, .val u2, .val u3, .val u4, .val (.int p5), .val (.int p6), .val (.int p7)] [(.int p7), (.ref b1)])) rfl rfl (hb hby d2_40)
  refine go1 st8 ?_
  have Fw8 := ((((((F_several_b1.other W2 (Or.inr (slot_ne (Or.inr (hw _ (List.mem_of_getElem? (i := 39) rfl))) (Or.inr (hw _ (List.mem_of_getElem? (i := 27) rfl))) (by decide) (t := .boolean) (t' := (.object "java/lang/String")) (by decide) (by decide)))).other W3 (Or.inr (slot_ne (Or.inr (hw _ (List.mem_of_getElem? (i := 39) rfl))) (Or.inr (hw _ (List.mem_of_getElem? (i := 29) rfl))) (by decide) (t := .boolean) (t' := (.object "java/lang/String")) (by decide) (by decide)))).other W4 (Or.inr (slot_ne (Or.inr (hw _ (List.mem_of_getElem? (i := 39) rfl))) (Or.inr (hw _ (List.mem_of_getElem? (i := 31) rfl))) (by decide) (t := .boolean) (t' := (.object "java/lang/String")) (by decide) (by decide)))).other W5 (Or.inr (slot_ne (Or.inr (hw _ (List.mem_of_getElem? (i := 39) rfl))) (Or.inr (hw _ (List.mem_of_getElem? (i := 33) rfl))) (by decide) (t := .boolean) (t' := (.object "java/lang/String")) (by decide) (by decide)))).other W6 (Or.inr (slot_ne (Or.inr (hw _ (List.mem_of_getElem? (i := 39) rfl))) (Or.inr (hw _ (List.mem_of_getElem? (i := 35) rfl))) (by decide) (t := .boolean) (t' := .boolean) (by decide) (by decide)))).other W7 (Or.inr (slot_ne (Or.inr (hw _ (List.mem_of_getElem? (i := 39) rfl))) (Or.inr (hw _ (List.mem_of_getElem? (i := 37) rfl))) (by decide) (t := .boolean) (t' := .boolean) (by decide) (by decide)))).same W8
  have N8 := Fr.snoc X8 N7 g_b1
  show Go p.tables e below T8 (mkF m 43 #[.val (.ref b1), .val u1, .val u2, .val u3, .val u4, .val (.int p5), .val (.int p6), .val (.int p7)] []) _
  refine goR X8 (BodyLoose.notSynchronized Bd) (v := none) (fun _ => rfl) (Q2 Z b1 u1 u2 u3 u4 p5 p6 p7 h0 n0) (fun fs hr => X8.returnOut hx Bd.returns (hb hby d2_43) hr) (by decide) (by decide) ?_
  show Q2 Z b1 u1 u2 u3 u4 p5 p6 p7 h0 n0 _ T8.heap _
  rw [e8]
  exact ⟨rfl, N8, ((((((((Keep.refl h0 [b1]).wr W2 (Or.inl (List.mem_of_getElem? (i := 0) rfl))).wr W3 (Or.inl (List.mem_of_getElem? (i := 0) rfl))).wr W4 (Or.inl (List.mem_of_getElem? (i := 0) rfl))).wr W5 (Or.inl (List.mem_of_getElem? (i := 0) rfl))).wr W6 (Or.inl (List.mem_of_getElem? (i := 0) rfl))).wr W7 (Or.inl (List.mem_of_getElem? (i := 0) rfl))).wr W8 (Or.inl (List.mem_of_getElem? (i := 0) rfl))), (((((((E_b1.wr W2).wr W3).wr W4).wr W5).wr W6).wr W7).wr W8), (((((Fw3.other W4 (Or.inr (slot_ne (Or.inr (hw _ (List.mem_of_getElem? (i := 29) rfl))) (Or.inr (hw _ (List.mem_of_getElem? (i := 31) rfl))) (by decide) (t := (.object "java/lang/String")) (t' := (.object "java/lang/String")) (by decide) (by decide)))).other W5 (Or.inr (slot_ne (Or.inr (hw _ (List.mem_of_getElem? (i := 29) rfl))) (Or.inr (hw _ (List.mem_of_getElem? (i := 33) rfl))) (by decide) (t := (.object "java/lang/String")) (t' := (.object "java/lang/String")) (by decide) (by decide)))).other W6 (Or.inr (slot_ne (Or.inr (hw _ (List.mem_of_getElem? (i := 29) rfl))) (Or.inr (hw _ (List.mem_of_getElem? (i := 35) rfl))) (by decide) (t := (.object "java/lang/String")) (t' := .boolean) (by decide) (by decide)))).other W7 (Or.inr (slot_ne (Or.inr (hw _ (List.mem_of_getElem? (i := 29) rfl))) (Or.inr (hw _ (List.mem_of_getElem? (i := 37) rfl))) (by decide) (t := (.object "java/lang/String")) (t' := .boolean) (by decide) (by decide)))).other W8 (Or.inr (slot_ne (Or.inr (hw _ (List.mem_of_getElem? (i := 29) rfl))) (Or.inr (hw _ (List.mem_of_getElem? (i := 39) rfl))) (by decide) (t := (.object "java/lang/String")) (t' := .boolean) (by decide) (by decide))))⟩
theorem d5_0 : decode prog_11_method_9_code 0 = .ok (.aload_n 0, 1) := by decide +kernel
theorem d5_1 : decode prog_11_method_9_code 1 = .ok (.getfield 13, 3) := by decide +kernel
theorem d5_4 : decode prog_11_method_9_code 4 = .ok (.ifnonnull 7, 3) := by decide +kernel
theorem d5_7 : decode prog_11_method_9_code 7 = .ok (.iconst 1, 1) := by decide +kernel
theorem d5_8 : decode prog_11_method_9_code 8 = .ok (.goto 4, 3) := by decide +kernel
theorem d5_12 : decode prog_11_method_9_code 12 = .ok (.ireturn, 1) := by decide +kernel
theorem pn_isa : plainName "com/example/enrout/enrout/broker/cli/Option" = true := by first | (simp [plainName, overriddenIn]; done) | decide +kernel
theorem ef_isa (m : MethodId) (b1 : Addr) : entryFrame m #[(.ref b1)] 1 = mkF m 0 #[.val (.ref b1)] [] := by first | (simp [entryFrame, mkF, argsToLocals, Value.category]; done) | rfl
def Qisa (Z : State) (b1 : Addr) (h0 : Heap) (n0 : Nat) (v : Option Value) (h : Heap) (L : List Loc) : Prop := v = some (.int (1 : Int32)) ∧ Fr n0 L ∧ h = h0
set_option maxRecDepth 65536 in
set_option maxHeartbeats 40000000 in
theorem rmisa (l : Launch) (Z : State) (a0 : Array Value) (hw : ∀ d ∈ tables_1, d.before a0 Z = true) (ws : List Jvm.Cond) (b1 : Addr) (h0 : Heap) (n0 : Nat) (Z0 : n0 ≤ h0.size) (F_value_b1 : Fld Z h0 b1 "com/example/enrout/enrout/broker/cli/Option" "value" "Ljava/lang/String;" .null) :
    MetFree l (⟨"com/example/enrout/enrout/broker/cli/Option", "isFlag", "()Z"⟩ : MethodName) (head1 (Jvm.Cond.code (⟨"com/example/enrout/enrout/broker/cli/Option", "isFlag", "()Z"⟩ : MethodName) prog_11_method_9_code 1 (some .boolean) :: ws) ({ frames := 0, cells := 0, slots := 0, locals := 0 } : Room)) (fun a U => a = #[(.ref b1)] ∧ Z.Warmed39 U.vm ∧ U.heap = h0) (fun _ _ _ _ _ => True) (fun _ U o U' => ∃ v L, o = .returned v ∧ Qisa Z b1 h0 n0 v U'.heap L ∧ FrameEnd U o U' L ({ frames := 0, cells := 0, slots := 0, locals := 0 } : Room).cells ({ frames := 0, cells := 0, slots := 0, locals := 0 } : Room).slots) := by
  refine MetFree.of_bodySF (plainFor_of_name pn_isa) hisR ?_
  intro p e s m args below meth c s₁ Bd hml0 hP hK
  obtain ⟨rfl, hZ, hh⟩ := hP
  have hx := Bd.exec
  have hby := Bd.bytes
  have hml : c.maxLocals = 1 := hml0
  have hown : s.vm.findClass "com/example/enrout/enrout/broker/cli/Option" = some m.cls := findClass_of_methodNamed Bd.named
  have hnm := (name_of_methodNamed Bd.named Bd.method).1
  have X0 : Stand p l e ({ frames := 0, cells := 0, slots := 0, locals := 0 } : Room) s m #[(.ref b1)] below meth c s₁ [] 0 0 := Stand.of_body Bd
  have e0 : s₁.heap = h0 := by rw [← hh, Bd.state]; rfl
  have N0 := Fr.nil n0
  refine goB (ef_isa m b1) ?_
  show Go p.tables e below s₁ (mkF m 0 #[.val (.ref b1)] []) _
  refine go1 (fun _ => XS.aloadN X0.here hx rfl (hb hby d5_0) rfl rfl) ?_
  show Go p.tables e below s₁ (mkF m 1 #[.val (.ref b1)] [(.ref b1)]) _
  obtain ⟨T1, X1, e1, st1⟩ := getF X0 hx hZ hown (host := "") (Or.inl (hw _ (List.mem_of_getElem? (i := 28) rfl))) Via.refl e0 F_value_b1 (g := (mkF m 1 #[.val (.ref b1)] [(.ref b1)])) rfl rfl (hb hby d5_1)
  refine go1 st1 ?_
  show Go p.tables e below T1 (mkF m 4 #[.val (.ref b1)] [.null]) _
  refine go1 (fun _ => XS.ifnonnullNo X1.here hx rfl (hb hby d5_4) rfl) ?_
  show Go p.tables e below T1 (mkF m 7 #[.val (.ref b1)] []) _
  refine go1 (fun _ => XS.iconst X1.here hx rfl (hb hby d5_7)) ?_
  show Go p.tables e below T1 (mkF m 8 #[.val (.ref b1)] [(.int (1 : Int32))]) _
  refine go1 (fun _ => XS.goto X1.here hx rfl (pc0 := 8) (pc' := 12) rfl (hb hby d5_8) (by decide) (by decide)) ?_
  show Go p.tables e below T1 (mkF m 12 #[.val (.ref b1)] [(.int (1 : Int32))]) _
  refine goR X1 (BodyLoose.notSynchronized Bd) (v := (some (.int (1 : Int32)))) (fun h => by rw [Bd.returns] at h; cases h) (Qisa Z b1 h0 n0) (fun fs hr => retN X1 hx (t := .boolean) Bd.returns (by simp) (hb hby d5_12) hr) (by decide) (by decide) ?_
  show Qisa Z b1 h0 n0 _ T1.heap _
  rw [e1]
  exact ⟨rfl, N0, rfl⟩
theorem d5_11 : decode prog_11_method_9_code 11 = .ok (.iconst 0, 1) := by decide +kernel
theorem pn_isb : plainName "com/example/enrout/enrout/broker/cli/Option" = true := by first | (simp [plainName, overriddenIn]; done) | decide +kernel
theorem ef_isb (m : MethodId) (b1 : Addr) : entryFrame m #[(.ref b1)] 1 = mkF m 0 #[.val (.ref b1)] [] := by first | (simp [entryFrame, mkF, argsToLocals, Value.category]; done) | rfl
def Qisb (Z : State) (b1 : Addr) (v1 : Addr) (h0 : Heap) (n0 : Nat) (v : Option Value) (h : Heap) (L : List Loc) : Prop := v = some (.int (0 : Int32)) ∧ Fr n0 L ∧ h = h0
set_option maxRecDepth 65536 in
set_option maxHeartbeats 40000000 in
theorem rmisb (l : Launch) (Z : State) (a0 : Array Value) (hw : ∀ d ∈ tables_1, d.before a0 Z = true) (ws : List Jvm.Cond) (b1 : Addr) (v1 : Addr) (h0 : Heap) (n0 : Nat) (Z0 : n0 ≤ h0.size) (F_value_b1 : Fld Z h0 b1 "com/example/enrout/enrout/broker/cli/Option" "value" "Ljava/lang/String;" (.ref v1)) :
    MetFree l (⟨"com/example/enrout/enrout/broker/cli/Option", "isFlag", "()Z"⟩ : MethodName) (head1 (Jvm.Cond.code (⟨"com/example/enrout/enrout/broker/cli/Option", "isFlag", "()Z"⟩ : MethodName) prog_11_method_9_code 1 (some .boolean) :: ws) ({ frames := 0, cells := 0, slots := 0, locals := 0 } : Room)) (fun a U => a = #[(.ref b1)] ∧ Z.Warmed39 U.vm ∧ U.heap = h0) (fun _ _ _ _ _ => True) (fun _ U o U' => ∃ v L, o = .returned v ∧ Qisb Z b1 v1 h0 n0 v U'.heap L ∧ FrameEnd U o U' L ({ frames := 0, cells := 0, slots := 0, locals := 0 } : Room).cells ({ frames := 0, cells := 0, slots := 0, locals := 0 } : Room).slots) := by
  refine MetFree.of_bodySF (plainFor_of_name pn_isb) hisR ?_
  intro p e s m args below meth c s₁ Bd hml0 hP hK
  obtain ⟨rfl, hZ, hh⟩ := hP
  have hx := Bd.exec
  have hby := Bd.bytes
  have hml : c.maxLocals = 1 := hml0
  have hown : s.vm.findClass "com/example/enrout/enrout/broker/cli/Option" = some m.cls := findClass_of_methodNamed Bd.named
  have hnm := (name_of_methodNamed Bd.named Bd.method).1
  have X0 : Stand p l e ({ frames := 0, cells := 0, slots := 0, locals := 0 } : Room) s m #[(.ref b1)] below meth c s₁ [] 0 0 := Stand.of_body Bd
  have e0 : s₁.heap = h0 := by rw [← hh, Bd.state]; rfl
  have N0 := Fr.nil n0
  refine goB (ef_isb m b1) ?_
  show Go p.tables e below s₁ (mkF m 0 #[.val (.ref b1)] []) _
  refine go1 (fun _ => XS.aloadN X0.here hx rfl (hb hby d5_0) rfl rfl) ?_
  show Go p.tables e below s₁ (mkF m 1 #[.val (.ref b1)] [(.ref b1)]) _
  obtain ⟨T1, X1, e1, st1⟩ := getF X0 hx hZ hown (host := "") (Or.inl (hw _ (List.mem_of_getElem? (i := 28) rfl))) Via.refl e0 F_value_b1 (g := (mkF m 1 #[.val (.ref b1)] [(.ref b1)])) rfl rfl (hb hby d5_1)
  refine go1 st1 ?_
  show Go p.tables e below T1 (mkF m 4 #[.val (.ref b1)] [(.ref v1)]) _
  refine go1 (fun _ => XS.ifnonnullYes X1.here hx rfl (pc0 := 4) (pc' := 11) rfl (hb hby d5_4) rfl (by decide) (by decide)) ?_
  show Go p.tables e below T1 (mkF m 11 #[.val (.ref b1)] []) _
  refine go1 (fun _ => XS.iconst X1.here hx rfl (hb hby d5_11)) ?_
  show Go p.tables e below T1 (mkF m 12 #[.val (.ref b1)] [(.int (0 : Int32))]) _
  refine goR X1 (BodyLoose.notSynchronized Bd) (v := (some (.int (0 : Int32)))) (fun h => by rw [Bd.returns] at h; cases h) (Qisb Z b1 v1 h0 n0) (fun fs hr => retN X1 hx (t := .boolean) Bd.returns (by simp) (hb hby d5_12) hr) (by decide) (by decide) ?_
  show Qisb Z b1 v1 h0 n0 _ T1.heap _
  rw [e1]
  exact ⟨rfl, N0, rfl⟩
theorem d6_0 : decode prog_11_method_7_code 0 = .ok (.new 8, 3) := by decide +kernel
theorem d6_3 : decode prog_11_method_7_code 3 = .ok (.dup, 1) := by decide +kernel
theorem d6_4 : decode prog_11_method_7_code 4 = .ok (.aload_n 0, 1) := by decide +kernel
theorem d6_5 : decode prog_11_method_7_code 5 = .ok (.aconst_null, 1) := by decide +kernel
theorem d6_6 : decode prog_11_method_7_code 6 = .ok (.aload_n 1, 1) := by decide +kernel
theorem d6_7 : decode prog_11_method_7_code 7 = .ok (.aconst_null, 1) := by decide +kernel
theorem d6_8 : decode prog_11_method_7_code 8 = .ok (.iconst 0, 1) := by decide +kernel
theorem d6_9 : decode prog_11_method_7_code 9 = .ok (.iconst 0, 1) := by decide +kernel
theorem d6_10 : decode prog_11_method_7_code 10 = .ok (.iconst 0, 1) := by decide +kernel
theorem d6_11 : decode prog_11_method_7_code 11 = .ok (.invokespecial 32, 3) := by decide +kernel
theorem d6_14 : decode prog_11_method_7_code 14 = .ok (.areturn, 1) := by decide +kernel
theorem pn_6 : plainName "com/example/enrout/enrout/broker/cli/Option" = true := by first | (simp [plainName, overriddenIn]; done) | decide +kernel
theorem pd6_0 : parseMethodDescriptor "(Ljava/lang/String;Ljava/lang/String;Ljava/lang/String;Ljava/lang/String;ZZZ)V" = some ⟨[(.object "java/lang/String"), (.object "java/lang/String"), (.object "java/lang/String"), (.object "java/lang/String"), .boolean, .boolean, .boolean], none⟩ := by decide +kernel
theorem ef_6 (m : MethodId) (a1 : Addr) (a2 : Addr) : entryFrame m #[(.ref a1), (.ref a2)] 2 = mkF m 0 #[.val (.ref a1), .val (.ref a2)] [] := by first | (simp [entryFrame, mkF, argsToLocals, Value.category]; done) | rfl
def Q6 (Z : State) (a1 : Addr) (a2 : Addr) (h0 : Heap) (n0 : Nat) (v : Option Value) (h : Heap) (L : List Loc) : Prop := ∃ (b : Addr), v = some (.ref b) ∧ Fr n0 L ∧ Keep h0 h [] ∧ Exa Z h b "com/example/enrout/enrout/broker/cli/Option" ∧ Fld Z h b "com/example/enrout/enrout/broker/cli/Option" "value" "Ljava/lang/String;" .null
set_option maxRecDepth 65536 in
set_option maxHeartbeats 40000000 in
theorem rm6 (l : Launch) (Z : State) (a0 : Array Value) (hw : ∀ d ∈ tables_1, d.before a0 Z = true) (ws : List Jvm.Cond) (a1 : Addr) (a2 : Addr) (h0 : Heap) (n0 : Nat) (Z0 : n0 ≤ h0.size) :
    MetFree l (⟨"com/example/enrout/enrout/broker/cli/Option", "flag", "(Ljava/lang/String;Ljava/lang/String;)Lcom/example/enrout/enrout/broker/cli/Option;"⟩ : MethodName) (head1 (Jvm.Cond.code (⟨"com/example/enrout/enrout/broker/cli/Option", "flag", "(Ljava/lang/String;Ljava/lang/String;)Lcom/example/enrout/enrout/broker/cli/Option;"⟩ : MethodName) prog_11_method_7_code 2 (some (.object "com/example/enrout/enrout/broker/cli/Option")) :: ws) ({ frames := 3, cells := 1, slots := 7, locals := 44 } : Room)) (fun a U => a = #[(.ref a1), (.ref a2)] ∧ Z.Warmed39 U.vm ∧ U.heap = h0) (fun _ _ _ _ _ => True) (fun _ U o U' => ∃ v L, o = .returned v ∧ Q6 Z a1 a2 h0 n0 v U'.heap L ∧ FrameEnd U o U' L ({ frames := 3, cells := 1, slots := 7, locals := 44 } : Room).cells ({ frames := 3, cells := 1, slots := 7, locals := 44 } : Room).slots) := by
  refine MetFree.of_bodySF (plainFor_of_name pn_6) hisR ?_
  intro p e s m args below meth c s₁ Bd hml0 hP hK
  obtain ⟨rfl, hZ, hh⟩ := hP
  have hx := Bd.exec
  have hby := Bd.bytes
  have hml : c.maxLocals = 2 := hml0
  have hown : s.vm.findClass "com/example/enrout/enrout/broker/cli/Option" = some m.cls := findClass_of_methodNamed Bd.named
  have hnm := (name_of_methodNamed Bd.named Bd.method).1
  have X0 : Stand p l e ({ frames := 3, cells := 1, slots := 7, locals := 44 } : Room) s m #[(.ref a1), (.ref a2)] below meth c s₁ [] 0 0 := Stand.of_body Bd
  have e0 : s₁.heap = h0 := by rw [← hh, Bd.state]; rfl
  have N0 := Fr.nil n0
  refine goB (ef_6 m a1 a2) ?_
  show Go p.tables e below s₁ (mkF m 0 #[.val (.ref a1), .val (.ref a2)] []) _
  obtain ⟨T1, h1, X1, e1, E1, A1, D1, -, st1⟩ := newO X0 hx hZ hown (hw _ (List.mem_of_getElem? (i := 48) rfl)) (hw _ (List.mem_of_getElem? (i := 13) rfl)) (hw _ (List.mem_of_getElem? (i := 14) rfl)) e0 (g := (mkF m 0 #[.val (.ref a1), .val (.ref a2)] [])) rfl (hb hby d6_0) (by decide) (by decide)
  obtain ⟨b1, g1⟩ : ∃ z, z = h0.size := ⟨_, rfl⟩
  rw [← g1] at A1 D1 st1
  have g_b1 : n0 ≤ b1 := Nat.le_trans Z0 (Nat.le_of_eq g1.symm)
  have F_name_b1 : Fld Z h1 b1 "com/example/enrout/enrout/broker/cli/Option" "name" "Ljava/lang/String;" .null := D1 (Or.inr (hw _ (List.mem_of_getElem? (i := 27) rfl))) (ty := (.object "java/lang/String")) (by decide)
  have F_value_b1 : Fld Z h1 b1 "com/example/enrout/enrout/broker/cli/Option" "value" "Ljava/lang/String;" .null := D1 (Or.inr (hw _ (List.mem_of_getElem? (i := 29) rfl))) (ty := (.object "java/lang/String")) (by decide)
  have F_help_b1 : Fld Z h1 b1 "com/example/enrout/enrout/broker/cli/Option" "help" "Ljava/lang/String;" .null := D1 (Or.inr (hw _ (List.mem_of_getElem? (i := 31) rfl))) (ty := (.object "java/lang/String")) (by decide)
  have F_defaultValue_b1 : Fld Z h1 b1 "com/example/enrout/enrout/broker/cli/Option" "defaultValue" "Ljava/lang/String;" .null := D1 (Or.inr (hw _ (List.mem_of_getElem? (i := 33) rfl))) (ty := (.object "java/lang/String")) (by decide)
  have F_required_b1 : Fld Z h1 b1 "com/example/enrout/enrout/broker/cli/Option" "required" "Z" (.int (0 : Int32)) := D1 (Or.inr (hw _ (List.mem_of_getElem? (i := 35) rfl))) (ty := .boolean) (by decide)
  have F_repeatable_b1 : Fld Z h1 b1 "com/example/enrout/enrout/broker/cli/Option" "repeatable" "Z" (.int (0 : Int32)) := D1 (Or.inr (hw _ (List.mem_of_getElem? (i := 37) rfl))) (ty := .boolean) (by decide)
  have F_several_b1 : Fld Z h1 b1 "com/example/enrout/enrout/broker/cli/Option" "several" "Z" (.int (0 : Int32)) := D1 (Or.inr (hw _ (List.mem_of_getElem? (i := 39) rfl))) (ty := .boolean) (by decide)
  refine go1 st1 ?_
  show Go p.tables e below T1 (mkF m 3 #[.val (.ref a1), .val (.ref a2)] [(.ref b1)]) _
  refine go1 (fun _ => XS.dup X1.here hx rfl (hb hby d6_3) rfl rfl) ?_
  show Go p.tables e below T1 (mkF m 4 #[.val (.ref a1), .val (.ref a2)] [(.ref b1), (.ref b1)]) _
  refine go1 (fun _ => XS.aloadN X1.here hx rfl (hb hby d6_4) rfl rfl) ?_
  show Go p.tables e below T1 (mkF m 5 #[.val (.ref a1), .val (.ref a2)] [(.ref a1), (.ref b1), (.ref b1)]) _
  refine go1 (fun _ => XS.aconstNull X1.here hx rfl (hb hby d6_5)) ?_
  show Go p.tables e below T1 (mkF m 6 #[.val (.ref a1), .val (.ref a2)] [.null, (.ref a1), (.ref b1), (.ref b1)]) _
  refine go1 (fun _ => XS.aloadN X1.here hx rfl (hb hby d6_6) rfl rfl) ?_
  show Go p.tables e below T1 (mkF m 7 #[.val (.ref a1), .val (.ref a2)] [(.ref a2), .null, (.ref a1), (.ref b1), (.ref b1)]) _
  refine go1 (fun _ => XS.aconstNull X1.here hx rfl (hb hby d6_7)) ?_
  show Go p.tables e below T1 (mkF m 8 #[.val (.ref a1), .val (.ref a2)] [.null, (.ref a2), .null, (.ref a1), (.ref b1), (.ref b1)]) _
  refine go1 (fun _ => XS.iconst X1.here hx rfl (hb hby d6_8)) ?_
  show Go p.tables e below T1 (mkF m 9 #[.val (.ref a1), .val (.ref a2)] [(.int (0 : Int32)), .null, (.ref a2), .null, (.ref a1), (.ref b1), (.ref b1)]) _
  refine go1 (fun _ => XS.iconst X1.here hx rfl (hb hby d6_9)) ?_
  show Go p.tables e below T1 (mkF m 10 #[.val (.ref a1), .val (.ref a2)] [(.int (0 : Int32)), (.int (0 : Int32)), .null, (.ref a2), .null, (.ref a1), (.ref b1), (.ref b1)]) _
  refine go1 (fun _ => XS.iconst X1.here hx rfl (hb hby d6_10)) ?_
  show Go p.tables e below T1 (mkF m 11 #[.val (.ref a1), .val (.ref a2)] [(.int (0 : Int32)), (.int (0 : Int32)), (.int (0 : Int32)), .null, (.ref a2), .null, (.ref a1), (.ref b1), (.ref b1)]) _
  obtain ⟨_, _, ⟨T2, L2, k2, n2⟩, -, X2, ⟨Lc2, hQ2, l2, y2, z2⟩, st2⟩ := X1.specialBack hx (y := (⟨"com/example/enrout/enrout/broker/cli/Option", "<init>", "(Ljava/lang/String;Ljava/lang/String;Ljava/lang/String;Ljava/lang/String;ZZZ)V"⟩ : MethodName)) rfl hown (mvT hZ (hw _ (List.mem_of_getElem? (i := 49) rfl))) (mvT hZ (hw _ (List.mem_of_getElem? (i := 16) rfl))) (mvT hZ (hw _ (List.mem_of_getElem? (i := 17) rfl))) (by decide) (backOf (W := 1) (rm2 l Z a0 hw [] b1 (.ref a1) .null (.ref a2) .null (0 : Int32) (0 : Int32) (0 : Int32) h1 n0 (Nat.le_trans Z0 E1.1) F_name_b1 F_value_b1 F_help_b1 F_defaultValue_b1 F_required_b1 F_repeatable_b1 F_several_b1 A1 g_b1 (by first | assumption | decide | rfl) (by first | assumption | decide | rfl) (by first | assumption | decide | rfl) (by first | assumption | decide | rfl)) hZ (hw _ (List.mem_of_getElem? (i := 17) rfl)) (hw _ (List.mem_of_getElem? (i := 14) rfl)) (by decide) (by decide)) (g := (mkF m 11 #[.val (.ref a1), .val (.ref a2)] [(.int (0 : Int32)), (.int (0 : Int32)), (.int (0 : Int32)), .null, (.ref a2), .null, (.ref a1), (.ref b1), (.ref b1)])) rfl (by rw [hml]; rfl) (Steps.refl _) (a := b1) (argsL := [(.ref a1), .null, (.ref a2), .null, (.int (0 : Int32)), (.int (0 : Int32)), (.int (0 : Int32))]) (rest := [(.ref b1)]) (lenOf pd6_0 rfl) rfl (by show 2 * 0 + _ ≤ _; exact Nat.le_of_eq rfl) (hb hby d6_11) (fun _ _ => ⟨rfl, e1, (by decide : 1 + 0 ≤ _), (by decide : 7 + 0 ≤ _)⟩)
  dsimp only [Pt.U, Pt.locs, Pt.cells, Pt.slots] at X2 l2 y2 z2 st2 hQ2
  subst l2 y2 z2
  obtain ⟨rfl, N2q, K2, G2_0, G2_1⟩ := hQ2
  have N2 := Fr.app N0 N2q
  refine goT st2 ?_
  show Go p.tables e below T2 (mkF m 14 #[.val (.ref a1), .val (.ref a2)] [(.ref b1)]) _
  refine goR X2 (BodyLoose.notSynchronized Bd) (v := (some (.ref b1))) (fun h => by rw [Bd.returns] at h; cases h) (Q6 Z a1 a2 h0 n0) (fun fs hr => retOut X2 hx (t := (.object "com/example/enrout/enrout/broker/cli/Option")) (w := (.ref b1)) Bd.returns rfl (Or.inr (Or.inr (Or.inr (Or.inr ⟨rfl, rfl, rfl⟩)))) (hb hby d6_14) hr) (by decide) (by decide) ?_
  show Q6 Z a1 a2 h0 n0 _ T2.heap _
  exact ⟨b1, rfl, N2, (((Keep.refl h0 []).ext E1).trans K2 (allS (Or.inr (Nat.le_trans (Nat.le_refl h0.size) (Nat.le_of_eq g1.symm))) all0)), G2_0, G2_1⟩
theorem d7_0 : decode prog_11_method_8_code 0 = .ok (.new 8, 3) := by decide +kernel
theorem d7_3 : decode prog_11_method_8_code 3 = .ok (.dup, 1) := by decide +kernel
theorem d7_4 : decode prog_11_method_8_code 4 = .ok (.aload_n 0, 1) := by decide +kernel
theorem d7_5 : decode prog_11_method_8_code 5 = .ok (.aload_n 0, 1) := by decide +kernel
theorem d7_6 : decode prog_11_method_8_code 6 = .ok (.aload_n 1, 1) := by decide +kernel
theorem d7_7 : decode prog_11_method_8_code 7 = .ok (.aconst_null, 1) := by decide +kernel
theorem d7_8 : decode prog_11_method_8_code 8 = .ok (.iconst 1, 1) := by decide +kernel
theorem d7_9 : decode prog_11_method_8_code 9 = .ok (.iconst 0, 1) := by decide +kernel
theorem d7_10 : decode prog_11_method_8_code 10 = .ok (.iconst 0, 1) := by decide +kernel
theorem d7_11 : decode prog_11_method_8_code 11 = .ok (.invokespecial 32, 3) := by decide +kernel
theorem d7_14 : decode prog_11_method_8_code 14 = .ok (.areturn, 1) := by decide +kernel
theorem pn_7 : plainName "com/example/enrout/enrout/broker/cli/Option" = true := by first | (simp [plainName, overriddenIn]; done) | decide +kernel
theorem pd7_0 : parseMethodDescriptor "(Ljava/lang/String;Ljava/lang/String;Ljava/lang/String;Ljava/lang/String;ZZZ)V" = some ⟨[(.object "java/lang/String"), (.object "java/lang/String"), (.object "java/lang/String"), (.object "java/lang/String"), .boolean, .boolean, .boolean], none⟩ := by decide +kernel
theorem ef_7 (m : MethodId) (a1 : Addr) (a2 : Addr) : entryFrame m #[(.ref a1), (.ref a2)] 2 = mkF m 0 #[.val (.ref a1), .val (.ref a2)] [] := by first | (simp [entryFrame, mkF, argsToLocals, Value.category]; done) | rfl
def Q7 (Z : State) (a1 : Addr) (a2 : Addr) (h0 : Heap) (n0 : Nat) (v : Option Value) (h : Heap) (L : List Loc) : Prop := ∃ (b : Addr), v = some (.ref b) ∧ Fr n0 L ∧ Keep h0 h [] ∧ Exa Z h b "com/example/enrout/enrout/broker/cli/Option" ∧ Fld Z h b "com/example/enrout/enrout/broker/cli/Option" "value" "Ljava/lang/String;" (.ref a1)
set_option maxRecDepth 65536 in
set_option maxHeartbeats 40000000 in
theorem rm7 (l : Launch) (Z : State) (a0 : Array Value) (hw : ∀ d ∈ tables_1, d.before a0 Z = true) (ws : List Jvm.Cond) (a1 : Addr) (a2 : Addr) (h0 : Heap) (n0 : Nat) (Z0 : n0 ≤ h0.size) :
    MetFree l (⟨"com/example/enrout/enrout/broker/cli/Option", "operand", "(Ljava/lang/String;Ljava/lang/String;)Lcom/example/enrout/enrout/broker/cli/Option;"⟩ : MethodName) (head1 (Jvm.Cond.code (⟨"com/example/enrout/enrout/broker/cli/Option", "operand", "(Ljava/lang/String;Ljava/lang/String;)Lcom/example/enrout/enrout/broker/cli/Option;"⟩ : MethodName) prog_11_method_8_code 2 (some (.object "com/example/enrout/enrout/broker/cli/Option")) :: ws) ({ frames := 3, cells := 1, slots := 7, locals := 44 } : Room)) (fun a U => a = #[(.ref a1), (.ref a2)] ∧ Z.Warmed39 U.vm ∧ U.heap = h0) (fun _ _ _ _ _ => True) (fun _ U o U' => ∃ v L, o = .returned v ∧ Q7 Z a1 a2 h0 n0 v U'.heap L ∧ FrameEnd U o U' L ({ frames := 3, cells := 1, slots := 7, locals := 44 } : Room).cells ({ frames := 3, cells := 1, slots := 7, locals := 44 } : Room).slots) := by
  refine MetFree.of_bodySF (plainFor_of_name pn_7) hisR ?_
  intro p e s m args below meth c s₁ Bd hml0 hP hK
  obtain ⟨rfl, hZ, hh⟩ := hP
  have hx := Bd.exec
  have hby := Bd.bytes
  have hml : c.maxLocals = 2 := hml0
  have hown : s.vm.findClass "com/example/enrout/enrout/broker/cli/Option" = some m.cls := findClass_of_methodNamed Bd.named
  have hnm := (name_of_methodNamed Bd.named Bd.method).1
  have X0 : Stand p l e ({ frames := 3, cells := 1, slots := 7, locals := 44 } : Room) s m #[(.ref a1), (.ref a2)] below meth c s₁ [] 0 0 := Stand.of_body Bd
  have e0 : s₁.heap = h0 := by rw [← hh, Bd.state]; rfl
  have N0 := Fr.nil n0
  refine goB (ef_7 m a1 a2) ?_
  show Go p.tables e below s₁ (mkF m 0 #[.val (.ref a1), .val (.ref a2)] []) _
  obtain ⟨T1, h1, X1, e1, E1, A1, D1, -, st1⟩ := newO X0 hx hZ hown (hw _ (List.mem_of_getElem? (i := 48) rfl)) (hw _ (List.mem_of_getElem? (i := 13) rfl)) (hw _ (List.mem_of_getElem? (i := 14) rfl)) e0 (g := (mkF m 0 #[.val (.ref a1), .val (.ref a2)] [])) rfl (hb hby d7_0) (by decide) (by decide)
  obtain ⟨b1, g1⟩ : ∃ z, z = h0.size := ⟨_, rfl⟩
  rw [← g1] at A1 D1 st1
  have g_b1 : n0 ≤ b1 := Nat.le_trans Z0 (Nat.le_of_eq g1.symm)
  have F_name_b1 : Fld Z h1 b1 "com/example/enrout/enrout/broker/cli/Option" "name" "Ljava/lang/String;" .null := D1 (Or.inr (hw _ (List.mem_of_getElem? (i := 27) rfl))) (ty := (.object "java/lang/String")) (by decide)
  have F_value_b1 : Fld Z h1 b1 "com/example/enrout/enrout/broker/cli/Option" "value" "Ljava/lang/String;" .null := D1 (Or.inr (hw _ (List.mem_of_getElem? (i := 29) rfl))) (ty := (.object "java/lang/String")) (by decide)
  have F_help_b1 : Fld Z h1 b1 "com/example/enrout/enrout/broker/cli/Option" "help" "Ljava/lang/String;" .null := D1 (Or.inr (hw _ (List.mem_of_getElem? (i := 31) rfl))) (ty := (.object "java/lang/String")) (by decide)
  have F_defaultValue_b1 : Fld Z h1 b1 "com/example/enrout/enrout/broker/cli/Option" "defaultValue" "Ljava/lang/String;" .null := D1 (Or.inr (hw _ (List.mem_of_getElem? (i := 33) rfl))) (ty := (.object "java/lang/String")) (by decide)
  have F_required_b1 : Fld Z h1 b1 "com/example/enrout/enrout/broker/cli/Option" "required" "Z" (.int (0 : Int32)) := D1 (Or.inr (hw _ (List.mem_of_getElem? (i := 35) rfl))) (ty := .boolean) (by decide)
  have F_repeatable_b1 : Fld Z h1 b1 "com/example/enrout/enrout/broker/cli/Option" "repeatable" "Z" (.int (0 : Int32)) := D1 (Or.inr (hw _ (List.mem_of_getElem? (i := 37) rfl))) (ty := .boolean) (by decide)
  have F_several_b1 : Fld Z h1 b1 "com/example/enrout/enrout/broker/cli/Option" "several" "Z" (.int (0 : Int32)) := D1 (Or.inr (hw _ (List.mem_of_getElem? (i := 39) rfl))) (ty := .boolean) (by decide)
  refine go1 st1 ?_
  show Go p.tables e below T1 (mkF m 3 #[.val (.ref a1), .val (.ref a2)] [(.ref b1)]) _
  refine go1 (fun _ => XS.dup X1.here hx rfl (hb hby d7_3) rfl rfl) ?_
  show Go p.tables e below T1 (mkF m 4 #[.val (.ref a1), .val (.ref a2)] [(.ref b1), (.ref b1)]) _
  refine go1 (fun _ => XS.aloadN X1.here hx rfl (hb hby d7_4) rfl rfl) ?_
  show Go p.tables e below T1 (mkF m 5 #[.val (.ref a1), .val (.ref a2)] [(.ref a1), (.ref b1), (.ref b1)]) _
  refine go1 (fun _ => XS.aloadN X1.here hx rfl (hb hby d7_5) rfl rfl) ?_
  show Go p.tables e below T1 (mkF m 6 #[.val (.ref a1), .val (.ref a2)] [(.ref a1), (.ref a1), (.ref b1), (.ref b1)]) _
  refine go1 (fun _ => XS.aloadN X1.here hx rfl (hb hby d7_6) rfl rfl) ?_
  show Go p.tables e below T1 (mkF m 7 #[.val (.ref a1), .val (.ref a2)] [(.ref a2), (.ref a1), (.ref a1), (.ref b1), (.ref b1)]) _
  refine go1 (fun _ => XS.aconstNull X1.here hx rfl (hb hby d7_7)) ?_
  show Go p.tables e below T1 (mkF m 8 #[.val (.ref a1), .val (.ref a2)] [.null, (.ref a2), (.ref a1), (.ref a1), (.ref b1), (.ref b1)]) _
  refine go1 (fun _ => XS.iconst X1.here hx rfl (hb hby d7_8)) ?_
  show Go p.tables e below T1 (mkF m 9 #[.val (.ref a1), .val (.ref a2)] [(.int (1 : Int32)), .null, (.ref a2), (.ref a1), (.ref a1), (.ref b1), (.ref b1)]) _
  refine go1 (fun _ => XS.iconst X1.here hx rfl (hb hby d7_9)) ?_
  show Go p.tables e below T1 (mkF m 10 #[.val (.ref a1), .val (.ref a2)] [(.int (0 : Int32)), (.int (1 : Int32)), .null, (.ref a2), (.ref a1), (.ref a1), (.ref b1), (.ref b1)]) _
  refine go1 (fun _ => XS.iconst X1.here hx rfl (hb hby d7_10)) ?_
  show Go p.tables e below T1 (mkF m 11 #[.val (.ref a1), .val (.ref a2)] [(.int (0 : Int32)), (.int (0 : Int32)), (.int (1 : Int32)), .null, (.ref a2), (.ref a1), (.ref a1), (.ref b1), (.ref b1)]) _
  obtain ⟨_, _, ⟨T2, L2, k2, n2⟩, -, X2, ⟨Lc2, hQ2, l2, y2, z2⟩, st2⟩ := X1.specialBack hx (y := (⟨"com/example/enrout/enrout/broker/cli/Option", "<init>", "(Ljava/lang/String;Ljava/lang/String;Ljava/lang/String;Ljava/lang/String;ZZZ)V"⟩ : MethodName)) rfl hown (mvT hZ (hw _ (List.mem_of_getElem? (i := 49) rfl))) (mvT hZ (hw _ (List.mem_of_getElem? (i := 16) rfl))) (mvT hZ (hw _ (List.mem_of_getElem? (i := 17) rfl))) (by decide) (backOf (W := 1) (rm2 l Z a0 hw [] b1 (.ref a1) (.ref a1) (.ref a2) .null (1 : Int32) (0 : Int32) (0 : Int32) h1 n0 (Nat.le_trans Z0 E1.1) F_name_b1 F_value_b1 F_help_b1 F_defaultValue_b1 F_required_b1 F_repeatable_b1 F_several_b1 A1 g_b1 (by first | assumption | decide | rfl) (by first | assumption | decide | rfl) (by first | assumption | decide | rfl) (by first | assumption | decide | rfl)) hZ (hw _ (List.mem_of_getElem? (i := 17) rfl)) (hw _ (List.mem_of_getElem? (i := 14) rfl)) (by decide) (by decide)) (g := (mkF m 11 #[.val (.ref a1), .val (.ref a2)] [(.int (0 : Int32)), (.int (0 : Int32)), (.int (1 : Int32)), .null, (.ref a2), (.ref a1), (.ref a1), (.ref b1), (.ref b1)])) rfl (by rw [hml]; rfl) (Steps.refl _) (a := b1) (argsL := [(.ref a1), (.ref a1), (.ref a2), .null, (.int (1 : Int32)), (.int (0 : Int32)), (.int (0 : Int32))]) (rest := [(.ref b1)]) (lenOf pd7_0 rfl) rfl (by show 2 * 0 + _ ≤ _; exact Nat.le_of_eq rfl) (hb hby d7_11) (fun _ _ => ⟨rfl, e1, (by decide : 1 + 0 ≤ _), (by decide : 7 + 0 ≤ _)⟩)
  dsimp only [Pt.U, Pt.locs, Pt.cells, Pt.slots] at X2 l2 y2 z2 st2 hQ2
  subst l2 y2 z2
  obtain ⟨rfl, N2q, K2, G2_0, G2_1⟩ := hQ2
  have N2 := Fr.app N0 N2q
  refine goT st2 ?_
  show Go p.tables e below T2 (mkF m 14 #[.val (.ref a1), .val (.ref a2)] [(.ref b1)]) _
  refine goR X2 (BodyLoose.notSynchronized Bd) (v := (some (.ref b1))) (fun h => by rw [Bd.returns] at h; cases h) (Q7 Z a1 a2 h0 n0) (fun fs hr => retOut X2 hx (t := (.object "com/example/enrout/enrout/broker/cli/Option")) (w := (.ref b1)) Bd.returns rfl (Or.inr (Or.inr (Or.inr (Or.inr ⟨rfl, rfl, rfl⟩)))) (hb hby d7_14) hr) (by decide) (by decide) ?_
  show Q7 Z a1 a2 h0 n0 _ T2.heap _
  exact ⟨b1, rfl, N2, (((Keep.refl h0 []).ext E1).trans K2 (allS (Or.inr (Nat.le_trans (Nat.le_refl h0.size) (Nat.le_of_eq g1.symm))) all0)), G2_0, G2_1⟩
theorem d8_0 : decode prog_11_method_6_code 0 = .ok (.new 8, 3) := by decide +kernel
theorem d8_3 : decode prog_11_method_6_code 3 = .ok (.dup, 1) := by decide +kernel
theorem d8_4 : decode prog_11_method_6_code 4 = .ok (.aload_n 0, 1) := by decide +kernel
theorem d8_5 : decode prog_11_method_6_code 5 = .ok (.aload_n 1, 1) := by decide +kernel
theorem d8_6 : decode prog_11_method_6_code 6 = .ok (.aload_n 2, 1) := by decide +kernel
theorem d8_7 : decode prog_11_method_6_code 7 = .ok (.aconst_null, 1) := by decide +kernel
theorem d8_8 : decode prog_11_method_6_code 8 = .ok (.iconst 0, 1) := by decide +kernel
theorem d8_9 : decode prog_11_method_6_code 9 = .ok (.iconst 0, 1) := by decide +kernel
theorem d8_10 : decode prog_11_method_6_code 10 = .ok (.iconst 0, 1) := by decide +kernel
theorem d8_11 : decode prog_11_method_6_code 11 = .ok (.invokespecial 32, 3) := by decide +kernel
theorem d8_14 : decode prog_11_method_6_code 14 = .ok (.areturn, 1) := by decide +kernel
theorem pn_8 : plainName "com/example/enrout/enrout/broker/cli/Option" = true := by first | (simp [plainName, overriddenIn]; done) | decide +kernel
theorem pd8_0 : parseMethodDescriptor "(Ljava/lang/String;Ljava/lang/String;Ljava/lang/String;Ljava/lang/String;ZZZ)V" = some ⟨[(.object "java/lang/String"), (.object "java/lang/String"), (.object "java/lang/String"), (.object "java/lang/String"), .boolean, .boolean, .boolean], none⟩ := by decide +kernel
theorem ef_8 (m : MethodId) (a1 : Addr) (a2 : Addr) (a3 : Addr) : entryFrame m #[(.ref a1), (.ref a2), (.ref a3)] 3 = mkF m 0 #[.val (.ref a1), .val (.ref a2), .val (.ref a3)] [] := by first | (simp [entryFrame, mkF, argsToLocals, Value.category]; done) | rfl
def Q8 (Z : State) (a1 : Addr) (a2 : Addr) (a3 : Addr) (h0 : Heap) (n0 : Nat) (v : Option Value) (h : Heap) (L : List Loc) : Prop := ∃ (b : Addr), v = some (.ref b) ∧ Fr n0 L ∧ Keep h0 h [] ∧ Exa Z h b "com/example/enrout/enrout/broker/cli/Option" ∧ Fld Z h b "com/example/enrout/enrout/broker/cli/Option" "value" "Ljava/lang/String;" (.ref a2)
set_option maxRecDepth 65536 in
set_option maxHeartbeats 40000000 in
theorem rm8 (l : Launch) (Z : State) (a0 : Array Value) (hw : ∀ d ∈ tables_1, d.before a0 Z = true) (ws : List Jvm.Cond) (a1 : Addr) (a2 : Addr) (a3 : Addr) (h0 : Heap) (n0 : Nat) (Z0 : n0 ≤ h0.size) :
    MetFree l (⟨"com/example/enrout/enrout/broker/cli/Option", "optional", "(Ljava/lang/String;Ljava/lang/String;Ljava/lang/String;)Lcom/example/enrout/enrout/broker/cli/Option;"⟩ : MethodName) (head1 (Jvm.Cond.code (⟨"com/example/enrout/enrout/broker/cli/Option", "optional", "(Ljava/lang/String;Ljava/lang/String;Ljava/lang/String;)Lcom/example/enrout/enrout/broker/cli/Option;"⟩ : MethodName) prog_11_method_6_code 3 (some (.object "com/example/enrout/enrout/broker/cli/Option")) :: ws) ({ frames := 3, cells := 1, slots := 7, locals := 44 } : Room)) (fun a U => a = #[(.ref a1), (.ref a2), (.ref a3)] ∧ Z.Warmed39 U.vm ∧ U.heap = h0) (fun _ _ _ _ _ => True) (fun _ U o U' => ∃ v L, o = .returned v ∧ Q8 Z a1 a2 a3 h0 n0 v U'.heap L ∧ FrameEnd U o U' L ({ frames := 3, cells := 1, slots := 7, locals := 44 } : Room).cells ({ frames := 3, cells := 1, slots := 7, locals := 44 } : Room).slots) := by
  refine MetFree.of_bodySF (plainFor_of_name pn_8) hisR ?_
  intro p e s m args below meth c s₁ Bd hml0 hP hK
  obtain ⟨rfl, hZ, hh⟩ := hP
  have hx := Bd.exec
  have hby := Bd.bytes
  have hml : c.maxLocals = 3 := hml0
  have hown : s.vm.findClass "com/example/enrout/enrout/broker/cli/Option" = some m.cls := findClass_of_methodNamed Bd.named
  have hnm := (name_of_methodNamed Bd.named Bd.method).1
  have X0 : Stand p l e ({ frames := 3, cells := 1, slots := 7, locals := 44 } : Room) s m #[(.ref a1), (.ref a2), (.ref a3)] below meth c s₁ [] 0 0 := Stand.of_body Bd
  have e0 : s₁.heap = h0 := by rw [← hh, Bd.state]; rfl
  have N0 := Fr.nil n0
  refine goB (ef_8 m a1 a2 a3) ?_
  show Go p.tables e below s₁ (mkF m 0 #[.val (.ref a1), .val (.ref a2), .val (.ref a3)] []) _
  obtain ⟨T1, h1, X1, e1, E1, A1, D1, -, st1⟩ := newO X0 hx hZ hown (hw _ (List.mem_of_getElem? (i := 48) rfl)) (hw _ (List.mem_of_getElem? (i := 13) rfl)) (hw _ (List.mem_of_getElem? (i := 14) rfl)) e0 (g := (mkF m 0 #[.val (.ref a1), .val (.ref a2), .val (.ref a3)] [])) rfl (hb hby d8_0) (by decide) (by decide)
  obtain ⟨b1, g1⟩ : ∃ z, z = h0.size := ⟨_, rfl⟩
  rw [← g1] at A1 D1 st1
  have g_b1 : n0 ≤ b1 := Nat.le_trans Z0 (Nat.le_of_eq g1.symm)
  have F_name_b1 : Fld Z h1 b1 "com/example/enrout/enrout/broker/cli/Option" "name" "Ljava/lang/String;" .null := D1 (Or.inr (hw _ (List.mem_of_getElem? (i := 27) rfl))) (ty := (.object "java/lang/String")) (by decide)
  have F_value_b1 : Fld Z h1 b1 "com/example/enrout/enrout/broker/cli/Option" "value" "Ljava/lang/String;" .null := D1 (Or.inr (hw _ (List.mem_of_getElem? (i := 29) rfl))) (ty := (.object "java/lang/String")) (by decide)
  have F_help_b1 : Fld Z h1 b1 "com/example/enrout/enrout/broker/cli/Option" "help" "Ljava/lang/String;" .null := D1 (Or.inr (hw _ (List.mem_of_getElem? (i := 31) rfl))) (ty := (.object "java/lang/String")) (by decide)
  have F_defaultValue_b1 : Fld Z h1 b1 "com/example/enrout/enrout/broker/cli/Option" "defaultValue" "Ljava/lang/String;" .null := D1 (Or.inr (hw _ (List.mem_of_getElem? (i := 33) rfl))) (ty := (.object "java/lang/String")) (by decide)
  have F_required_b1 : Fld Z h1 b1 "com/example/enrout/enrout/broker/cli/Option" "required" "Z" (.int (0 : Int32)) := D1 (Or.inr (hw _ (List.mem_of_getElem? (i := 35) rfl))) (ty := .boolean) (by decide)
  have F_repeatable_b1 : Fld Z h1 b1 "com/example/enrout/enrout/broker/cli/Option" "repeatable" "Z" (.int (0 : Int32)) := D1 (Or.inr (hw _ (List.mem_of_getElem? (i := 37) rfl))) (ty := .boolean) (by decide)
  have F_several_b1 : Fld Z h1 b1 "com/example/enrout/enrout/broker/cli/Option" "several" "Z" (.int (0 : Int32)) := D1 (Or.inr (hw _ (List.mem_of_getElem? (i := 39) rfl))) (ty := .boolean) (by decide)
  refine go1 st1 ?_
  show Go p.tables e below T1 (mkF m 3 #[.val (.ref a1), .val (.ref a2), .val (.ref a3)] [(.ref b1)]) _
  refine go1 (fun _ => XS.dup X1.here hx rfl (hb hby d8_3) rfl rfl) ?_
  show Go p.tables e below T1 (mkF m 4 #[.val (.ref a1), .val (.ref a2), .val (.ref a3)] [(.ref b1), (.ref b1)]) _
  refine go1 (fun _ => XS.aloadN X1.here hx rfl (hb hby d8_4) rfl rfl) ?_
  show Go p.tables e below T1 (mkF m 5 #[.val (.ref a1), .val (.ref a2), .val (.ref a3)] [(.ref a1), (.ref b1), (.ref b1)]) _
  refine go1 (fun _ => XS.aloadN X1.here hx rfl (hb hby d8_5) rfl rfl) ?_
  show Go p.tables e below T1 (mkF m 6 #[.val (.ref a1), .val (.ref a2), .val (.ref a3)] [(.ref a2), (.ref a1), (.ref b1), (.ref b1)]) _
  refine go1 (fun _ => XS.aloadN X1.here hx rfl (hb hby d8_6) rfl rfl) ?_
  show Go p.tables e below T1 (mkF m 7 #[.val (.ref a1), .val (.ref a2), .val (.ref a3)] [(.ref a3), (.ref a2), (.ref a1), (.ref b1), (.ref b1)]) _
  refine go1 (fun _ => XS.aconstNull X1.here hx rfl (hb hby d8_7)) ?_
  show Go p.tables e below T1 (mkF m 8 #[.val (.ref a1), .val (.ref a2), .val (.ref a3)] [.null, (.ref a3), (.ref a2), (.ref a1), (.ref b1), (.ref b1)]) _
  refine go1 (fun _ => XS.iconst X1.here hx rfl (hb hby d8_8)) ?_
  show Go p.tables e below T1 (mkF m 9 #[.val (.ref a1), .val (.ref a2), .val (.ref a3)] [(.int (0 : Int32)), .null, (.ref a3), (.ref a2), (.ref a1), (.ref b1), (.ref b1)]) _
  refine go1 (fun _ => XS.iconst X1.here hx rfl (hb hby d8_9)) ?_
  show Go p.tables e below T1 (mkF m 10 #[.val (.ref a1), .val (.ref a2), .val (.ref a3)] [(.int (0 : Int32)), (.int (0 : Int32)), .null, (.ref a3), (.ref a2), (.ref a1), (.ref b1), (.ref b1)]) _
  refine go1 (fun _ => XS.iconst X1.here hx rfl (hb hby d8_10)) ?_
  show Go p.tables e below T1 (mkF m 11 #[.val (.ref a1), .val (.ref a2), .val (.ref a3)] [(.int (0 : Int32)), (.int (0 : Int32)), (.int (0 : Int32)), .null, (.ref a3), (.ref a2), (.ref a1), (.ref b1), (.ref b1)]) _
  obtain ⟨_, _, ⟨T2, L2, k2, n2⟩, -, X2, ⟨Lc2, hQ2, l2, y2, z2⟩, st2⟩ := X1.specialBack hx (y := (⟨"com/example/enrout/enrout/broker/cli/Option", "<init>", "(Ljava/lang/String;Ljava/lang/String;Ljava/lang/String;Ljava/lang/String;ZZZ)V"⟩ : MethodName)) rfl hown (mvT hZ (hw _ (List.mem_of_getElem? (i := 49) rfl))) (mvT hZ (hw _ (List.mem_of_getElem? (i := 16) rfl))) (mvT hZ (hw _ (List.mem_of_getElem? (i := 17) rfl))) (by decide) (backOf (W := 1) (rm2 l Z a0 hw [] b1 (.ref a1) (.ref a2) (.ref a3) .null (0 : Int32) (0 : Int32) (0 : Int32) h1 n0 (Nat.le_trans Z0 E1.1) F_name_b1 F_value_b1 F_help_b1 F_defaultValue_b1 F_required_b1 F_repeatable_b1 F_several_b1 A1 g_b1 (by first | assumption | decide | rfl) (by first | assumption | decide | rfl) (by first | assumption | decide | rfl) (by first | assumption | decide | rfl)) hZ (hw _ (List.mem_of_getElem? (i := 17) rfl)) (hw _ (List.mem_of_getElem? (i := 14) rfl)) (by decide) (by decide)) (g := (mkF m 11 #[.val (.ref a1), .val (.ref a2), .val (.ref a3)] [(.int (0 : Int32)), (.int (0 : Int32)), (.int (0 : Int32)), .null, (.ref a3), (.ref a2), (.ref a1), (.ref b1), (.ref b1)])) rfl (by rw [hml]; rfl) (Steps.refl _) (a := b1) (argsL := [(.ref a1), (.ref a2), (.ref a3), .null, (.int (0 : Int32)), (.int (0 : Int32)), (.int (0 : Int32))]) (rest := [(.ref b1)]) (lenOf pd8_0 rfl) rfl (by show 2 * 0 + _ ≤ _; exact Nat.le_of_eq rfl) (hb hby d8_11) (fun _ _ => ⟨rfl, e1, (by decide : 1 + 0 ≤ _), (by decide : 7 + 0 ≤ _)⟩)
  dsimp only [Pt.U, Pt.locs, Pt.cells, Pt.slots] at X2 l2 y2 z2 st2 hQ2
  subst l2 y2 z2
  obtain ⟨rfl, N2q, K2, G2_0, G2_1⟩ := hQ2
  have N2 := Fr.app N0 N2q
  refine goT st2 ?_
  show Go p.tables e below T2 (mkF m 14 #[.val (.ref a1), .val (.ref a2), .val (.ref a3)] [(.ref b1)]) _
  refine goR X2 (BodyLoose.notSynchronized Bd) (v := (some (.ref b1))) (fun h => by rw [Bd.returns] at h; cases h) (Q8 Z a1 a2 a3 h0 n0) (fun fs hr => retOut X2 hx (t := (.object "com/example/enrout/enrout/broker/cli/Option")) (w := (.ref b1)) Bd.returns rfl (Or.inr (Or.inr (Or.inr (Or.inr ⟨rfl, rfl, rfl⟩)))) (hb hby d8_14) hr) (by decide) (by decide) ?_
  show Q8 Z a1 a2 a3 h0 n0 _ T2.heap _
  exact ⟨b1, rfl, N2, (((Keep.refl h0 []).ext E1).trans K2 (allS (Or.inr (Nat.le_trans (Nat.le_refl h0.size) (Nat.le_of_eq g1.symm))) all0)), G2_0, G2_1⟩
theorem pn_0 : plainName "com/example/enrout/enrout/broker/cli/OptionIsFlagPinLaw" = true := by first | (simp [plainName, overriddenIn]; done) | decide +kernel
theorem pd0_0 : parseMethodDescriptor "(III)Ljava/lang/String;" = some ⟨[.int, .int, .int], some (.object "java/lang/String")⟩ := by decide +kernel
theorem pd0_1 : parseMethodDescriptor "(Ljava/lang/String;Ljava/lang/String;Ljava/lang/String;Ljava/lang/String;ZZZ)V" = some ⟨[(.object "java/lang/String"), (.object "java/lang/String"), (.object "java/lang/String"), (.object "java/lang/String"), .boolean, .boolean, .boolean], none⟩ := by decide +kernel
theorem pd0_2 : parseMethodDescriptor "()Z" = some ⟨[], some .boolean⟩ := by decide +kernel
theorem pd0_3 : parseMethodDescriptor "(Ljava/lang/String;Ljava/lang/String;)Lcom/example/enrout/enrout/broker/cli/Option;" = some ⟨[(.object "java/lang/String"), (.object "java/lang/String")], some (.object "com/example/enrout/enrout/broker/cli/Option")⟩ := by decide +kernel
theorem pd0_4 : parseMethodDescriptor "(Ljava/lang/String;Ljava/lang/String;Ljava/lang/String;)Lcom/example/enrout/enrout/broker/cli/Option;" = some ⟨[(.object "java/lang/String"), (.object "java/lang/String"), (.object "java/lang/String")], some (.object "com/example/enrout/enrout/broker/cli/Option")⟩ := by decide +kernel
theorem ef_0 (m : MethodId) (p1 : Int32) (p2 : Int32) (p3 : Int32) (p4 : Int32) : entryFrame m #[(.int p1), (.int p2), (.int p3), (.int p4)] maxLocals = mkF m 0 #[.val (.int p1), .val (.int p2), .val (.int p3), .val (.int p4), .unset, .unset, .unset, .unset, .unset, .unset, .unset, .unset, .unset, .unset, .unset, .unset] [] := by first | (simp [entryFrame, mkF, argsToLocals, Value.category, maxLocals]; done) | rfl
def Q0 (Z : State) (p1 : Int32) (p2 : Int32) (p3 : Int32) (p4 : Int32) (a_COMPACT_STRINGS : Int32) (h0 : Heap) (n0 : Nat) (v : Option Value) (h : Heap) (L : List Loc) : Prop := v = some (.int (1 : Int32)) ∧ Fr n0 L
set_option maxRecDepth 65536 in
set_option maxHeartbeats 40000000 in
theorem rm0 (l : Launch) (Z : State) (a0 : Array Value) (hw : ∀ d ∈ tables_1, d.before a0 Z = true) (ws : List Jvm.Cond) (p1 : Int32) (p2 : Int32) (p3 : Int32) (p4 : Int32) (a_COMPACT_STRINGS : Int32) (h0 : Heap) (n0 : Nat) (Z0 : n0 ≤ h0.size) (O0 : Old Z n0 h0) (S_COMPACT_STRINGS : Sta Z Z.heap "java/lang/String" "COMPACT_STRINGS" "Z" (.int a_COMPACT_STRINGS)) (P_a_COMPACT_STRINGS : ¬ (a_COMPACT_STRINGS = (0 : Int32))) :
    MetFree l x (head1 (Jvm.Cond.code x code maxLocals ret :: ws) room_1) (fun a U => a = #[(.int p1), (.int p2), (.int p3), (.int p4)] ∧ Z.Warmed39 U.vm ∧ U.heap = h0) (fun _ _ _ _ _ => True) (fun _ U o U' => ∃ v L, o = .returned v ∧ Q0 Z p1 p2 p3 p4 a_COMPACT_STRINGS h0 n0 v U'.heap L ∧ ReturnedEndW U o U' L 32 2240) := by
  refine MetFree.of_bodySF (plainFor_of_name pn_0) hisR ?_
  intro p e s m args below meth c s₁ Bd hml0 hP hK
  obtain ⟨rfl, hZ, hh⟩ := hP
  have hx := Bd.exec
  have hby := Bd.bytes
  have hml : c.maxLocals = 16 := hml0
  have hown : s.vm.findClass "com/example/enrout/enrout/broker/cli/OptionIsFlagPinLaw" = some m.cls := findClass_of_methodNamed Bd.named
  have hnm := (name_of_methodNamed Bd.named Bd.method).1
  have X0 : Stand p l e room_1 (s.setVm s.vm) m #[(.int p1), (.int p2), (.int p3), (.int p4)] below meth c s₁ [] 0 0 := Stand.of_body Bd
  have e0 : s₁.heap = h0 := by rw [← hh, Bd.state]; rfl
  have N0 := Fr.nil n0
  have hS0 : s.Since s.vm 0 := (State.WarmedH.refl s).since 0
  have wS : ∀ d ∈ Bundle.stringAtoms, d.before a0 Z = true := by
    intro d hd
    simp only [Bundle.stringAtoms, List.mem_cons, List.not_mem_nil, or_false] at hd
    rcases hd with rfl | rfl | rfl | rfl | rfl | rfl | rfl
    · exact (hw _ (List.mem_of_getElem? (i := 5) rfl))
    · exact (hw _ (List.mem_of_getElem? (i := 6) rfl))
    · exact (hw _ (List.mem_of_getElem? (i := 7) rfl))
    · exact (hw _ (List.mem_of_getElem? (i := 8) rfl))
    · exact (hw _ (List.mem_of_getElem? (i := 9) rfl))
    · exact (hw _ (List.mem_of_getElem? (i := 10) rfl))
    · exact (hw _ (List.mem_of_getElem? (i := 11) rfl))
  refine goB (ef_0 m p1 p2 p3 p4) ?_
  show Go p.tables e below s₁ (mkF m 0 #[.val (.int p1), .val (.int p2), .val (.int p3), .val (.int p4), .unset, .unset, .unset, .unset, .unset, .unset, .unset, .unset, .unset, .unset, .unset, .unset] []) _
  refine go1 (fun _ => XS.iloadN X0.here hx rfl (hb hby at_0) rfl) ?_
  show Go p.tables e below s₁ (mkF m 1 #[.val (.int p1), .val (.int p2), .val (.int p3), .val (.int p4), .unset, .unset, .unset, .unset, .unset, .unset, .unset, .unset, .unset, .unset, .unset, .unset] [(.int p1)]) _
  refine go1 (fun _ => XS.iconst X0.here hx rfl (hb hby at_1)) ?_
  show Go p.tables e below s₁ (mkF m 2 #[.val (.int p1), .val (.int p2), .val (.int p3), .val (.int p4), .unset, .unset, .unset, .unset, .unset, .unset, .unset, .unset, .unset, .unset, .unset, .unset] [(.int (1 : Int32)), (.int p1)]) _
  refine go1 (fun _ => XS.iand X0.here hx rfl (hb hby at_2) rfl) ?_
  show Go p.tables e below s₁ (mkF m 3 #[.val (.int p1), .val (.int p2), .val (.int p3), .val (.int p4), .unset, .unset, .unset, .unset, .unset, .unset, .unset, .unset, .unset, .unset, .unset, .unset] [(.int (p1 &&& (1 : Int32)))]) _
  by_cases hc1 : (p1 &&& (1 : Int32)) = (0 : Int32)
  · skip
    refine go1 (fun _ => XS.ifYes X0.here hx rfl (pc0 := 3) (pc' := 10) rfl (hb hby at_3) rfl ((if0 _ _).trans (teq hc1).1) (by decide) (by decide)) ?_
    show Go p.tables e below s₁ (mkF m 10 #[.val (.int p1), .val (.int p2), .val (.int p3), .val (.int p4), .unset, .unset, .unset, .unset, .unset, .unset, .unset, .unset, .unset, .unset, .unset, .unset] []) _
    refine go1 (fun _ => XS.iconst X0.here hx rfl (hb hby at_10)) ?_
    show Go p.tables e below s₁ (mkF m 11 #[.val (.int p1), .val (.int p2), .val (.int p3), .val (.int p4), .unset, .unset, .unset, .unset, .unset, .unset, .unset, .unset, .unset, .unset, .unset, .unset] [(.int (0 : Int32))]) _
    refine go1 (fun _ => XS.istore X0.here hx rfl (hb hby at_11) rfl (l' := #[.val (.int p1), .val (.int p2), .val (.int p3), .val (.int p4), .val (.int (0 : Int32)), .unset, .unset, .unset, .unset, .unset, .unset, .unset, .unset, .unset, .unset, .unset]) rfl) ?_
    show Go p.tables e below s₁ (mkF m 13 #[.val (.int p1), .val (.int p2), .val (.int p3), .val (.int p4), .val (.int (0 : Int32)), .unset, .unset, .unset, .unset, .unset, .unset, .unset, .unset, .unset, .unset, .unset] []) _
    refine go1 (fun _ => XS.iloadN X0.here hx rfl (hb hby at_13) rfl) ?_
    show Go p.tables e below s₁ (mkF m 14 #[.val (.int p1), .val (.int p2), .val (.int p3), .val (.int p4), .val (.int (0 : Int32)), .unset, .unset, .unset, .unset, .unset, .unset, .unset, .unset, .unset, .unset, .unset] [(.int p1)]) _
    refine go1 (fun _ => XS.iconst X0.here hx rfl (hb hby at_14)) ?_
    show Go p.tables e below s₁ (mkF m 15 #[.val (.int p1), .val (.int p2), .val (.int p3), .val (.int p4), .val (.int (0 : Int32)), .unset, .unset, .unset, .unset, .unset, .unset, .unset, .unset, .unset, .unset, .unset] [(.int (1 : Int32)), (.int p1)]) _
    refine go1 (fun _ => XS.iushr X0.here hx rfl (hb hby at_15) rfl) ?_
    show Go p.tables e below s₁ (mkF m 16 #[.val (.int p1), .val (.int p2), .val (.int p3), .val (.int p4), .val (.int (0 : Int32)), .unset, .unset, .unset, .unset, .unset, .unset, .unset, .unset, .unset, .unset, .unset] [(.int ((p1.toUInt32 >>> ((1 : Int32) &&& 31).toUInt32).toInt32))]) _
    refine go1 (fun _ => XS.iconst X0.here hx rfl (hb hby at_16)) ?_
    show Go p.tables e below s₁ (mkF m 17 #[.val (.int p1), .val (.int p2), .val (.int p3), .val (.int p4), .val (.int (0 : Int32)), .unset, .unset, .unset, .unset, .unset, .unset, .unset, .unset, .unset, .unset, .unset] [(.int (3 : Int32)), (.int ((p1.toUInt32 >>> ((1 : Int32) &&& 31).toUInt32).toInt32))]) _
    refine go1 (fun _ => XS.irem X0.here hx rfl (hb hby at_17) rfl (by decide)) ?_
    rw [irem_eq_mod ((p1.toUInt32 >>> ((1 : Int32) &&& 31).toUInt32).toInt32) (3 : Int32)]
    show Go p.tables e below s₁ (mkF m 18 #[.val (.int p1), .val (.int p2), .val (.int p3), .val (.int p4), .val (.int (0 : Int32)), .unset, .unset, .unset, .unset, .unset, .unset, .unset, .unset, .unset, .unset, .unset] [(.int (((p1.toUInt32 >>> ((1 : Int32) &&& 31).toUInt32).toInt32) % (3 : Int32)))]) _
    refine go1 (fun _ => XS.istore X0.here hx rfl (hb hby at_18) rfl (l' := #[.val (.int p1), .val (.int p2), .val (.int p3), .val (.int p4), .val (.int (0 : Int32)), .val (.int (((p1.toUInt32 >>> ((1 : Int32) &&& 31).toUInt32).toInt32) % (3 : Int32))), .unset, .unset, .unset, .unset, .unset, .unset, .unset, .unset, .unset, .unset]) rfl) ?_
    show Go p.tables e below s₁ (mkF m 20 #[.val (.int p1), .val (.int p2), .val (.int p3), .val (.int p4), .val (.int (0 : Int32)), .val (.int (((p1.toUInt32 >>> ((1 : Int32) &&& 31).toUInt32).toInt32) % (3 : Int32))), .unset, .unset, .unset, .unset, .unset, .unset, .unset, .unset, .unset, .unset] []) _
    obtain ⟨z2, hz2⟩ : ∃ z : Int32, z = (((p1.toUInt32 >>> ((1 : Int32) &&& 31).toUInt32).toInt32) % (3 : Int32)) := ⟨_, rfl⟩
    rw [← hz2]
    show Go p.tables e below s₁ (mkF m 20 #[.val (.int p1), .val (.int p2), .val (.int p3), .val (.int p4), .val (.int (0 : Int32)), .val (.int z2), .unset, .unset, .unset, .unset, .unset, .unset, .unset, .unset, .unset, .unset] []) _
    refine go1 (fun _ => XS.iload X0.here hx rfl (hb hby at_20) rfl) ?_
    show Go p.tables e below s₁ (mkF m 22 #[.val (.int p1), .val (.int p2), .val (.int p3), .val (.int p4), .val (.int (0 : Int32)), .val (.int z2), .unset, .unset, .unset, .unset, .unset, .unset, .unset, .unset, .unset, .unset] [(.int z2)]) _
    refine go1 (T' := s₁) (g' := (mkF m 30 #[.val (.int p1), .val (.int p2), .val (.int p3), .val (.int p4), .val (.int (0 : Int32)), .val (.int (if z2 < (0 : Int32) then (-z2) else z2)), .unset, .unset, .unset, .unset, .unset, .unset, .unset, .unset, .unset, .unset] [])) (fun t k => ?_) ?_
    · by_cases hd3 : z2 < (0 : Int32)
      · skip
        rw [(if_pos hd3 : (if z2 < (0 : Int32) then (-z2) else z2) = (-z2))] at k
        show Steps p.tables e below (s₁.setTop (mkF m 22 #[.val (.int p1), .val (.int p2), .val (.int p3), .val (.int p4), .val (.int (0 : Int32)), .val (.int z2), .unset, .unset, .unset, .unset, .unset, .unset, .unset, .unset, .unset, .unset] [(.int z2)])) _
        refine XS.ifNo X0.here hx rfl (hb hby at_22) rfl ((if0 _ _).trans (tlt hd3).2.1) ?_
        show Steps p.tables e below (s₁.setTop (mkF m 25 #[.val (.int p1), .val (.int p2), .val (.int p3), .val (.int p4), .val (.int (0 : Int32)), .val (.int z2), .unset, .unset, .unset, .unset, .unset, .unset, .unset, .unset, .unset, .unset] [])) _
        refine XS.iload X0.here hx rfl (hb hby at_25) rfl ?_
        show Steps p.tables e below (s₁.setTop (mkF m 27 #[.val (.int p1), .val (.int p2), .val (.int p3), .val (.int p4), .val (.int (0 : Int32)), .val (.int z2), .unset, .unset, .unset, .unset, .unset, .unset, .unset, .unset, .unset, .unset] [(.int z2)])) _
        refine XS.ineg X0.here hx rfl (hb hby at_27) rfl ?_
        show Steps p.tables e below (s₁.setTop (mkF m 28 #[.val (.int p1), .val (.int p2), .val (.int p3), .val (.int p4), .val (.int (0 : Int32)), .val (.int z2), .unset, .unset, .unset, .unset, .unset, .unset, .unset, .unset, .unset, .unset] [(.int (-z2))])) _
        refine XS.istore X0.here hx rfl (hb hby at_28) rfl (l' := #[.val (.int p1), .val (.int p2), .val (.int p3), .val (.int p4), .val (.int (0 : Int32)), .val (.int (-z2)), .unset, .unset, .unset, .unset, .unset, .unset, .unset, .unset, .unset, .unset]) rfl ?_
        show Steps p.tables e below (s₁.setTop (mkF m 30 #[.val (.int p1), .val (.int p2), .val (.int p3), .val (.int p4), .val (.int (0 : Int32)), .val (.int (-z2)), .unset, .unset, .unset, .unset, .unset, .unset, .unset, .unset, .unset, .unset] [])) _
        exact k
      · skip
        rw [(if_neg hd3 : (if z2 < (0 : Int32) then (-z2) else z2) = z2)] at k
        show Steps p.tables e below (s₁.setTop (mkF m 22 #[.val (.int p1), .val (.int p2), .val (.int p3), .val (.int p4), .val (.int (0 : Int32)), .val (.int z2), .unset, .unset, .unset, .unset, .unset, .unset, .unset, .unset, .unset, .unset] [(.int z2)])) _
        refine XS.ifYes X0.here hx rfl (pc0 := 22) (pc' := 30) rfl (hb hby at_22) rfl ((if0 _ _).trans (flt hd3).2.1) (by decide) (by decide) ?_
        show Steps p.tables e below (s₁.setTop (mkF m 30 #[.val (.int p1), .val (.int p2), .val (.int p3), .val (.int p4), .val (.int (0 : Int32)), .val (.int z2), .unset, .unset, .unset, .unset, .unset, .unset, .unset, .unset, .unset, .unset] [])) _
        exact k
    show Go p.tables e below s₁ (mkF m 30 #[.val (.int p1), .val (.int p2), .val (.int p3), .val (.int p4), .val (.int (0 : Int32)), .val (.int (if z2 < (0 : Int32) then (-z2) else z2)), .unset, .unset, .unset, .unset, .unset, .unset, .unset, .unset, .unset, .unset] []) _
    obtain ⟨z4, hz4⟩ : ∃ z : Int32, z = (if z2 < (0 : Int32) then (-z2) else z2) := ⟨_, rfl⟩
    rw [← hz4]
    show Go p.tables e below s₁ (mkF m 30 #[.val (.int p1), .val (.int p2), .val (.int p3), .val (.int p4), .val (.int (0 : Int32)), .val (.int z4), .unset, .unset, .unset, .unset, .unset, .unset, .unset, .unset, .unset, .unset] []) _
    refine go1 (fun _ => XS.iload X0.here hx rfl (hb hby at_30) rfl) ?_
    show Go p.tables e below s₁ (mkF m 32 #[.val (.int p1), .val (.int p2), .val (.int p3), .val (.int p4), .val (.int (0 : Int32)), .val (.int z4), .unset, .unset, .unset, .unset, .unset, .unset, .unset, .unset, .unset, .unset] [(.int z4)]) _
    refine go1 (fun _ => XS.iloadN X0.here hx rfl (hb hby at_32) rfl) ?_
    show Go p.tables e below s₁ (mkF m 33 #[.val (.int p1), .val (.int p2), .val (.int p3), .val (.int p4), .val (.int (0 : Int32)), .val (.int z4), .unset, .unset, .unset, .unset, .unset, .unset, .unset, .unset, .unset, .unset] [(.int p2), (.int z4)]) _
    refine go1 (fun _ => XS.iloadN X0.here hx rfl (hb hby at_33) rfl) ?_
    show Go p.tables e below s₁ (mkF m 34 #[.val (.int p1), .val (.int p2), .val (.int p3), .val (.int p4), .val (.int (0 : Int32)), .val (.int z4), .unset, .unset, .unset, .unset, .unset, .unset, .unset, .unset, .unset, .unset] [(.int p3), (.int p2), (.int z4)]) _
    obtain ⟨_, _, ⟨T5, L5, k5, n5⟩, -, X5, hq5, hg5, ⟨Lc5, hQ5, l5, y5, z5⟩, st5⟩ := callSS X0 hx (y := (⟨"com/example/enrout/enrout/broker/cli/OptionIsFlagPinLaw", "drawn", "(III)Ljava/lang/String;"⟩ : MethodName)) hown (mvT hZ (hw _ (List.mem_of_getElem? (i := 0) rfl))) (mvT hZ (hw _ (List.mem_of_getElem? (i := 1) rfl))) (mvT hZ (hw _ (List.mem_of_getElem? (i := 2) rfl))) (mvT hZ (hw _ (List.mem_of_getElem? (i := 3) rfl))) (by decide) (backOfS (W := 0) (rm1 l Z a0 hw [] z4 p2 p3 a_COMPACT_STRINGS h0 n0 Z0 O0 S_COMPACT_STRINGS P_a_COMPACT_STRINGS) hZ (hw _ (List.mem_of_getElem? (i := 3) rfl)) (hw _ (List.mem_of_getElem? (i := 2) rfl)) (by decide) (by decide)) (g := (mkF m 34 #[.val (.int p1), .val (.int p2), .val (.int p3), .val (.int p4), .val (.int (0 : Int32)), .val (.int z4), .unset, .unset, .unset, .unset, .unset, .unset, .unset, .unset, .unset, .unset] [(.int p3), (.int p2), (.int z4)])) rfl (by rw [hml]; rfl) (argsL := [(.int z4), (.int p2), (.int p3)]) (rest := []) (lenOf pd0_0 rfl) rfl (by show 2 * 0 + _ ≤ _; exact Nat.le_of_eq rfl) (hb hby at_34) (fun _ _ => ⟨rfl, e0, (by decide : 0 + 3 ≤ _), (by decide : 0 + 8 ≤ _)⟩)
    dsimp only [Pt.U, Pt.locs, Pt.cells, Pt.slots] at X5 l5 y5 z5 st5 hQ5 hq5 hg5
    subst l5 y5 z5
    have hS5 : s.Since T5.vm T5.heap.size := foldS (s := s) (vm0 := s.vm) (T := s₁) hS0 (by rw [e0]; exact (Nat.zero_le _)) hq5 hg5
    have hZ5 : Z.Warmed39 T5.vm := State.Warmed39.trans (t := s.setVm s.vm) hZ hq5.1
    have hown5 : T5.vm.findClass "com/example/enrout/enrout/broker/cli/OptionIsFlagPinLaw" = some m.cls := by
      rw [hq5.1.alike.findClass]; exact hown
    obtain ⟨b6, rfl, N5q, K5⟩ := hQ5
    have N5 := Fr.app N0 N5q
    refine goT st5 ?_
    show Go p.tables e below T5 (mkF m 37 #[.val (.int p1), .val (.int p2), .val (.int p3), .val (.int p4), .val (.int (0 : Int32)), .val (.int z4), .unset, .unset, .unset, .unset, .unset, .unset, .unset, .unset, .unset, .unset] [(.ref b6)]) _
    refine go1 (fun _ => XS.astore X5.here hx rfl (hb hby at_37) rfl rfl (l' := #[.val (.int p1), .val (.int p2), .val (.int p3), .val (.int p4), .val (.int (0 : Int32)), .val (.int z4), .val (.ref b6), .unset, .unset, .unset, .unset, .unset, .unset, .unset, .unset, .unset]) rfl) ?_
    show Go p.tables e below T5 (mkF m 39 #[.val (.int p1), .val (.int p2), .val (.int p3), .val (.int p4), .val (.int (0 : Int32)), .val (.int z4), .val (.ref b6), .unset, .unset, .unset, .unset, .unset, .unset, .unset, .unset, .unset] []) _
    refine go1 (fun _ => XS.iloadN X5.here hx rfl (hb hby at_39) rfl) ?_
    show Go p.tables e below T5 (mkF m 40 #[.val (.int p1), .val (.int p2), .val (.int p3), .val (.int p4), .val (.int (0 : Int32)), .val (.int z4), .val (.ref b6), .unset, .unset, .unset, .unset, .unset, .unset, .unset, .unset, .unset] [(.int p4)]) _
    refine go1 (fun _ => XS.bipush X5.here hx rfl (hb hby at_40)) ?_
    show Go p.tables e below T5 (mkF m 42 #[.val (.int p1), .val (.int p2), .val (.int p3), .val (.int p4), .val (.int (0 : Int32)), .val (.int z4), .val (.ref b6), .unset, .unset, .unset, .unset, .unset, .unset, .unset, .unset, .unset] [(.int (16 : Int32)), (.int p4)]) _
    refine go1 (fun _ => XS.iand X5.here hx rfl (hb hby at_42) rfl) ?_
    show Go p.tables e below T5 (mkF m 43 #[.val (.int p1), .val (.int p2), .val (.int p3), .val (.int p4), .val (.int (0 : Int32)), .val (.int z4), .val (.ref b6), .unset, .unset, .unset, .unset, .unset, .unset, .unset, .unset, .unset] [(.int (p4 &&& (16 : Int32)))]) _
    by_cases hc7 : (p4 &&& (16 : Int32)) = (0 : Int32)
    · skip
      refine go1 (fun _ => XS.ifYes X5.here hx rfl (pc0 := 43) (pc' := 51) rfl (hb hby at_43) rfl ((if0 _ _).trans (teq hc7).1) (by decide) (by decide)) ?_
      show Go p.tables e below T5 (mkF m 51 #[.val (.int p1), .val (.int p2), .val (.int p3), .val (.int p4), .val (.int (0 : Int32)), .val (.int z4), .val (.ref b6), .unset, .unset, .unset, .unset, .unset, .unset, .unset, .unset, .unset] []) _
      refine go1 (fun _ => XS.aload X5.here hx rfl (hb hby at_51) rfl rfl) ?_
      show Go p.tables e below T5 (mkF m 53 #[.val (.int p1), .val (.int p2), .val (.int p3), .val (.int p4), .val (.int (0 : Int32)), .val (.int z4), .val (.ref b6), .unset, .unset, .unset, .unset, .unset, .unset, .unset, .unset, .unset] [(.ref b6)]) _
      refine go1 (fun _ => XS.astore X5.here hx rfl (hb hby at_53) rfl rfl (l' := #[.val (.int p1), .val (.int p2), .val (.int p3), .val (.int p4), .val (.int (0 : Int32)), .val (.int z4), .val (.ref b6), .val (.ref b6), .unset, .unset, .unset, .unset, .unset, .unset, .unset, .unset]) rfl) ?_
      show Go p.tables e below T5 (mkF m 55 #[.val (.int p1), .val (.int p2), .val (.int p3), .val (.int p4), .val (.int (0 : Int32)), .val (.int z4), .val (.ref b6), .val (.ref b6), .unset, .unset, .unset, .unset, .unset, .unset, .unset, .unset] []) _
      refine go1 (fun _ => XS.iloadN X5.here hx rfl (hb hby at_55) rfl) ?_
      show Go p.tables e below T5 (mkF m 56 #[.val (.int p1), .val (.int p2), .val (.int p3), .val (.int p4), .val (.int (0 : Int32)), .val (.int z4), .val (.ref b6), .val (.ref b6), .unset, .unset, .unset, .unset, .unset, .unset, .unset, .unset] [(.int p4)]) _
      refine go1 (fun _ => XS.iconst X5.here hx rfl (hb hby at_56)) ?_
      show Go p.tables e below T5 (mkF m 57 #[.val (.int p1), .val (.int p2), .val (.int p3), .val (.int p4), .val (.int (0 : Int32)), .val (.int z4), .val (.ref b6), .val (.ref b6), .unset, .unset, .unset, .unset, .unset, .unset, .unset, .unset] [(.int (5 : Int32)), (.int p4)]) _
      refine go1 (fun _ => XS.iushr X5.here hx rfl (hb hby at_57) rfl) ?_
      show Go p.tables e below T5 (mkF m 58 #[.val (.int p1), .val (.int p2), .val (.int p3), .val (.int p4), .val (.int (0 : Int32)), .val (.int z4), .val (.ref b6), .val (.ref b6), .unset, .unset, .unset, .unset, .unset, .unset, .unset, .unset] [(.int ((p4.toUInt32 >>> ((5 : Int32) &&& 31).toUInt32).toInt32))]) _
      refine go1 (fun _ => XS.iconst X5.here hx rfl (hb hby at_58)) ?_
      show Go p.tables e below T5 (mkF m 59 #[.val (.int p1), .val (.int p2), .val (.int p3), .val (.int p4), .val (.int (0 : Int32)), .val (.int z4), .val (.ref b6), .val (.ref b6), .unset, .unset, .unset, .unset, .unset, .unset, .unset, .unset] [(.int (1 : Int32)), (.int ((p4.toUInt32 >>> ((5 : Int32) &&& 31).toUInt32).toInt32))]) _
      refine go1 (fun _ => XS.iand X5.here hx rfl (hb hby at_59) rfl) ?_
      show Go p.tables e below T5 (mkF m 60 #[.val (.int p1), .val (.int p2), .val (.int p3), .val (.int p4), .val (.int (0 : Int32)), .val (.int z4), .val (.ref b6), .val (.ref b6), .unset, .unset, .unset, .unset, .unset, .unset, .unset, .unset] [(.int (((p4.toUInt32 >>> ((5 : Int32) &&& 31).toUInt32).toInt32) &&& (1 : Int32)))]) _
      refine go1 (fun _ => XS.iloadN X5.here hx rfl (hb hby at_60) rfl) ?_
      show Go p.tables e below T5 (mkF m 61 #[.val (.int p1), .val (.int p2), .val (.int p3), .val (.int p4), .val (.int (0 : Int32)), .val (.int z4), .val (.ref b6), .val (.ref b6), .unset, .unset, .unset, .unset, .unset, .unset, .unset, .unset] [(.int p3), (.int (((p4.toUInt32 >>> ((5 : Int32) &&& 31).toUInt32).toInt32) &&& (1 : Int32)))]) _
      refine go1 (fun _ => XS.iloadN X5.here hx rfl (hb hby at_61) rfl) ?_
      show Go p.tables e below T5 (mkF m 62 #[.val (.int p1), .val (.int p2), .val (.int p3), .val (.int p4), .val (.int (0 : Int32)), .val (.int z4), .val (.ref b6), .val (.ref b6), .unset, .unset, .unset, .unset, .unset, .unset, .unset, .unset] [(.int p2), (.int p3), (.int (((p4.toUInt32 >>> ((5 : Int32) &&& 31).toUInt32).toInt32) &&& (1 : Int32)))]) _
      obtain ⟨_, _, ⟨T8, L8, k8, n8⟩, -, X8, hq8, hg8, ⟨Lc8, hQ8, l8, y8, z8⟩, st8⟩ := callSS X5 hx (y := (⟨"com/example/enrout/enrout/broker/cli/OptionIsFlagPinLaw", "drawn", "(III)Ljava/lang/String;"⟩ : MethodName)) hown5 (mvT hZ5 (hw _ (List.mem_of_getElem? (i := 0) rfl))) (mvT hZ5 (hw _ (List.mem_of_getElem? (i := 1) rfl))) (mvT hZ5 (hw _ (List.mem_of_getElem? (i := 2) rfl))) (mvT hZ5 (hw _ (List.mem_of_getElem? (i := 3) rfl))) (by decide) (backOfS (W := 0) (rm1 l Z a0 hw [] (((p4.toUInt32 >>> ((5 : Int32) &&& 31).toUInt32).toInt32) &&& (1 : Int32)) p3 p2 a_COMPACT_STRINGS T5.heap n0 (Nat.le_trans Z0 K5.1) (O0.keep K5 all0) S_COMPACT_STRINGS P_a_COMPACT_STRINGS) hZ5 (hw _ (List.mem_of_getElem? (i := 3) rfl)) (hw _ (List.mem_of_getElem? (i := 2) rfl)) (by decide) (by decide)) (g := (mkF m 62 #[.val (.int p1), .val (.int p2), .val (.int p3), .val (.int p4), .val (.int (0 : Int32)), .val (.int z4), .val (.ref b6), .val (.ref b6), .unset, .unset, .unset, .unset, .unset, .unset, .unset, .unset] [(.int p2), (.int p3), (.int (((p4.toUInt32 >>> ((5 : Int32) &&& 31).toUInt32).toInt32) &&& (1 : Int32)))])) rfl (by rw [hml]; rfl) (argsL := [(.int (((p4.toUInt32 >>> ((5 : Int32) &&& 31).toUInt32).toInt32) &&& (1 : Int32))), (.int p3), (.int p2)]) (rest := []) (lenOf pd0_0 rfl) rfl (by show 2 * 0 + _ ≤ _; exact Nat.le_of_eq rfl) (hb hby at_62) (fun _ _ => ⟨rfl, rfl, (by decide : 3 + 3 ≤ _), (by decide : 8 + 8 ≤ _)⟩)
      dsimp only [Pt.U, Pt.locs, Pt.cells, Pt.slots] at X8 l8 y8 z8 st8 hQ8 hq8 hg8
      subst l8 y8 z8
      have hS8 : s.Since T8.vm T8.heap.size := foldS (s := s) (vm0 := T5.vm) (T := T5) hS5 (Nat.le_refl _) hq8 hg8
      have hZ8 : Z.Warmed39 T8.vm := State.Warmed39.trans (t := s.setVm T5.vm) hZ5 hq8.1
      have hown8 : T8.vm.findClass "com/example/enrout/enrout/broker/cli/OptionIsFlagPinLaw" = some m.cls := by
        rw [hq8.1.alike.findClass]; exact hown5
      obtain ⟨b9, rfl, N8q, K8⟩ := hQ8
      have N8 := Fr.app N5 N8q
      refine goT st8 ?_
      show Go p.tables e below T8 (mkF m 65 #[.val (.int p1), .val (.int p2), .val (.int p3), .val (.int p4), .val (.int (0 : Int32)), .val (.int z4), .val (.ref b6), .val (.ref b6), .unset, .unset, .unset, .unset, .unset, .unset, .unset, .unset] [(.ref b9)]) _
      refine go1 (fun _ => XS.astore X8.here hx rfl (hb hby at_65) rfl rfl (l' := #[.val (.int p1), .val (.int p2), .val (.int p3), .val (.int p4), .val (.int (0 : Int32)), .val (.int z4), .val (.ref b6), .val (.ref b6), .val (.ref b9), .unset, .unset, .unset, .unset, .unset, .unset, .unset]) rfl) ?_
      show Go p.tables e below T8 (mkF m 67 #[.val (.int p1), .val (.int p2), .val (.int p3), .val (.int p4), .val (.int (0 : Int32)), .val (.int z4), .val (.ref b6), .val (.ref b6), .val (.ref b9), .unset, .unset, .unset, .unset, .unset, .unset, .unset] []) _
      refine go1 (fun _ => XS.iloadN X8.here hx rfl (hb hby at_67) rfl) ?_
      show Go p.tables e below T8 (mkF m 68 #[.val (.int p1), .val (.int p2), .val (.int p3), .val (.int p4), .val (.int (0 : Int32)), .val (.int z4), .val (.ref b6), .val (.ref b6), .val (.ref b9), .unset, .unset, .unset, .unset, .unset, .unset, .unset] [(.int p4)]) _
      refine go1 (fun _ => XS.bipush X8.here hx rfl (hb hby at_68)) ?_
      show Go p.tables e below T8 (mkF m 70 #[.val (.int p1), .val (.int p2), .val (.int p3), .val (.int p4), .val (.int (0 : Int32)), .val (.int z4), .val (.ref b6), .val (.ref b6), .val (.ref b9), .unset, .unset, .unset, .unset, .unset, .unset, .unset] [(.int (8 : Int32)), (.int p4)]) _
      refine go1 (fun _ => XS.iand X8.here hx rfl (hb hby at_70) rfl) ?_
      show Go p.tables e below T8 (mkF m 71 #[.val (.int p1), .val (.int p2), .val (.int p3), .val (.int p4), .val (.int (0 : Int32)), .val (.int z4), .val (.ref b6), .val (.ref b6), .val (.ref b9), .unset, .unset, .unset, .unset, .unset, .unset, .unset] [(.int (p4 &&& (8 : Int32)))]) _
      by_cases hc10 : (p4 &&& (8 : Int32)) = (0 : Int32)
      · skip
        refine go1 (fun _ => XS.ifYes X8.here hx rfl (pc0 := 71) (pc' := 79) rfl (hb hby at_71) rfl ((if0 _ _).trans (teq hc10).1) (by decide) (by decide)) ?_
        show Go p.tables e below T8 (mkF m 79 #[.val (.int p1), .val (.int p2), .val (.int p3), .val (.int p4), .val (.int (0 : Int32)), .val (.int z4), .val (.ref b6), .val (.ref b6), .val (.ref b9), .unset, .unset, .unset, .unset, .unset, .unset, .unset] []) _
        refine go1 (fun _ => XS.aconstNull X8.here hx rfl (hb hby at_79)) ?_
        show Go p.tables e below T8 (mkF m 80 #[.val (.int p1), .val (.int p2), .val (.int p3), .val (.int p4), .val (.int (0 : Int32)), .val (.int z4), .val (.ref b6), .val (.ref b6), .val (.ref b9), .unset, .unset, .unset, .unset, .unset, .unset, .unset] [.null]) _
        refine go1 (fun _ => XS.astore X8.here hx rfl (hb hby at_80) rfl rfl (l' := #[.val (.int p1), .val (.int p2), .val (.int p3), .val (.int p4), .val (.int (0 : Int32)), .val (.int z4), .val (.ref b6), .val (.ref b6), .val (.ref b9), .val .null, .unset, .unset, .unset, .unset, .unset, .unset]) rfl) ?_
        show Go p.tables e below T8 (mkF m 82 #[.val (.int p1), .val (.int p2), .val (.int p3), .val (.int p4), .val (.int (0 : Int32)), .val (.int z4), .val (.ref b6), .val (.ref b6), .val (.ref b9), .val .null, .unset, .unset, .unset, .unset, .unset, .unset] []) _
        refine go1 (fun _ => XS.iloadN X8.here hx rfl (hb hby at_82) rfl) ?_
        show Go p.tables e below T8 (mkF m 83 #[.val (.int p1), .val (.int p2), .val (.int p3), .val (.int p4), .val (.int (0 : Int32)), .val (.int z4), .val (.ref b6), .val (.ref b6), .val (.ref b9), .val .null, .unset, .unset, .unset, .unset, .unset, .unset] [(.int p4)]) _
        refine go1 (fun _ => XS.iconst X8.here hx rfl (hb hby at_83)) ?_
        show Go p.tables e below T8 (mkF m 84 #[.val (.int p1), .val (.int p2), .val (.int p3), .val (.int p4), .val (.int (0 : Int32)), .val (.int z4), .val (.ref b6), .val (.ref b6), .val (.ref b9), .val .null, .unset, .unset, .unset, .unset, .unset, .unset] [(.int (1 : Int32)), (.int p4)]) _
        refine go1 (fun _ => XS.iand X8.here hx rfl (hb hby at_84) rfl) ?_
        show Go p.tables e below T8 (mkF m 85 #[.val (.int p1), .val (.int p2), .val (.int p3), .val (.int p4), .val (.int (0 : Int32)), .val (.int z4), .val (.ref b6), .val (.ref b6), .val (.ref b9), .val .null, .unset, .unset, .unset, .unset, .unset, .unset] [(.int (p4 &&& (1 : Int32)))]) _
        refine go1 (T' := T8) (g' := (mkF m 93 #[.val (.int p1), .val (.int p2), .val (.int p3), .val (.int p4), .val (.int (0 : Int32)), .val (.int z4), .val (.ref b6), .val (.ref b6), .val (.ref b9), .val .null, .unset, .unset, .unset, .unset, .unset, .unset] [(.int (if (p4 &&& (1 : Int32)) = (0 : Int32) then (0 : Int32) else (1 : Int32)))])) (fun t k => ?_) ?_
        · by_cases hd11 : (p4 &&& (1 : Int32)) = (0 : Int32)
          · skip
            rw [(if_pos hd11 : (if (p4 &&& (1 : Int32)) = (0 : Int32) then (0 : Int32) else (1 : Int32)) = (0 : Int32))] at k
            show Steps p.tables e below (T8.setTop (mkF m 85 #[.val (.int p1), .val (.int p2), .val (.int p3), .val (.int p4), .val (.int (0 : Int32)), .val (.int z4), .val (.ref b6), .val (.ref b6), .val (.ref b9), .val .null, .unset, .unset, .unset, .unset, .unset, .unset] [(.int (p4 &&& (1 : Int32)))])) _
            refine XS.ifYes X8.here hx rfl (pc0 := 85) (pc' := 92) rfl (hb hby at_85) rfl ((if0 _ _).trans (teq hd11).1) (by decide) (by decide) ?_
            show Steps p.tables e below (T8.setTop (mkF m 92 #[.val (.int p1), .val (.int p2), .val (.int p3), .val (.int p4), .val (.int (0 : Int32)), .val (.int z4), .val (.ref b6), .val (.ref b6), .val (.ref b9), .val .null, .unset, .unset, .unset, .unset, .unset, .unset] [])) _
            refine XS.iconst X8.here hx rfl (hb hby at_92) ?_
            show Steps p.tables e below (T8.setTop (mkF m 93 #[.val (.int p1), .val (.int p2), .val (.int p3), .val (.int p4), .val (.int (0 : Int32)), .val (.int z4), .val (.ref b6), .val (.ref b6), .val (.ref b9), .val .null, .unset, .unset, .unset, .unset, .unset, .unset] [(.int (0 : Int32))])) _
            exact k
          · skip
            rw [(if_neg hd11 : (if (p4 &&& (1 : Int32)) = (0 : Int32) then (0 : Int32) else (1 : Int32)) = (1 : Int32))] at k
            show Steps p.tables e below (T8.setTop (mkF m 85 #[.val (.int p1), .val (.int p2), .val (.int p3), .val (.int p4), .val (.int (0 : Int32)), .val (.int z4), .val (.ref b6), .val (.ref b6), .val (.ref b9), .val .null, .unset, .unset, .unset, .unset, .unset, .unset] [(.int (p4 &&& (1 : Int32)))])) _
            refine XS.ifNo X8.here hx rfl (hb hby at_85) rfl ((if0 _ _).trans (feq hd11).1) ?_
            show Steps p.tables e below (T8.setTop (mkF m 88 #[.val (.int p1), .val (.int p2), .val (.int p3), .val (.int p4), .val (.int (0 : Int32)), .val (.int z4), .val (.ref b6), .val (.ref b6), .val (.ref b9), .val .null, .unset, .unset, .unset, .unset, .unset, .unset] [])) _
            refine XS.iconst X8.here hx rfl (hb hby at_88) ?_
            show Steps p.tables e below (T8.setTop (mkF m 89 #[.val (.int p1), .val (.int p2), .val (.int p3), .val (.int p4), .val (.int (0 : Int32)), .val (.int z4), .val (.ref b6), .val (.ref b6), .val (.ref b9), .val .null, .unset, .unset, .unset, .unset, .unset, .unset] [(.int (1 : Int32))])) _
            refine XS.goto X8.here hx rfl (pc0 := 89) (pc' := 93) rfl (hb hby at_89) (by decide) (by decide) ?_
            show Steps p.tables e below (T8.setTop (mkF m 93 #[.val (.int p1), .val (.int p2), .val (.int p3), .val (.int p4), .val (.int (0 : Int32)), .val (.int z4), .val (.ref b6), .val (.ref b6), .val (.ref b9), .val .null, .unset, .unset, .unset, .unset, .unset, .unset] [(.int (1 : Int32))])) _
            exact k
        show Go p.tables e below T8 (mkF m 93 #[.val (.int p1), .val (.int p2), .val (.int p3), .val (.int p4), .val (.int (0 : Int32)), .val (.int z4), .val (.ref b6), .val (.ref b6), .val (.ref b9), .val .null, .unset, .unset, .unset, .unset, .unset, .unset] [(.int (if (p4 &&& (1 : Int32)) = (0 : Int32) then (0 : Int32) else (1 : Int32)))]) _
        obtain ⟨z12, hz12⟩ : ∃ z : Int32, z = (if (p4 &&& (1 : Int32)) = (0 : Int32) then (0 : Int32) else (1 : Int32)) := ⟨_, rfl⟩
        rw [← hz12]
        show Go p.tables e below T8 (mkF m 93 #[.val (.int p1), .val (.int p2), .val (.int p3), .val (.int p4), .val (.int (0 : Int32)), .val (.int z4), .val (.ref b6), .val (.ref b6), .val (.ref b9), .val .null, .unset, .unset, .unset, .unset, .unset, .unset] [(.int z12)]) _
        refine go1 (fun _ => XS.istore X8.here hx rfl (hb hby at_93) rfl (l' := #[.val (.int p1), .val (.int p2), .val (.int p3), .val (.int p4), .val (.int (0 : Int32)), .val (.int z4), .val (.ref b6), .val (.ref b6), .val (.ref b9), .val .null, .val (.int z12), .unset, .unset, .unset, .unset, .unset]) rfl) ?_
        show Go p.tables e below T8 (mkF m 95 #[.val (.int p1), .val (.int p2), .val (.int p3), .val (.int p4), .val (.int (0 : Int32)), .val (.int z4), .val (.ref b6), .val (.ref b6), .val (.ref b9), .val .null, .val (.int z12), .unset, .unset, .unset, .unset, .unset] []) _
        refine go1 (fun _ => XS.iloadN X8.here hx rfl (hb hby at_95) rfl) ?_
        show Go p.tables e below T8 (mkF m 96 #[.val (.int p1), .val (.int p2), .val (.int p3), .val (.int p4), .val (.int (0 : Int32)), .val (.int z4), .val (.ref b6), .val (.ref b6), .val (.ref b9), .val .null, .val (.int z12), .unset, .unset, .unset, .unset, .unset] [(.int p4)]) _
        refine go1 (fun _ => XS.iconst X8.here hx rfl (hb hby at_96)) ?_
        show Go p.tables e below T8 (mkF m 97 #[.val (.int p1), .val (.int p2), .val (.int p3), .val (.int p4), .val (.int (0 : Int32)), .val (.int z4), .val (.ref b6), .val (.ref b6), .val (.ref b9), .val .null, .val (.int z12), .unset, .unset, .unset, .unset, .unset] [(.int (2 : Int32)), (.int p4)]) _
        refine go1 (fun _ => XS.iand X8.here hx rfl (hb hby at_97) rfl) ?_
        show Go p.tables e below T8 (mkF m 98 #[.val (.int p1), .val (.int p2), .val (.int p3), .val (.int p4), .val (.int (0 : Int32)), .val (.int z4), .val (.ref b6), .val (.ref b6), .val (.ref b9), .val .null, .val (.int z12), .unset, .unset, .unset, .unset, .unset] [(.int (p4 &&& (2 : Int32)))]) _
        refine go1 (T' := T8) (g' := (mkF m 106 #[.val (.int p1), .val (.int p2), .val (.int p3), .val (.int p4), .val (.int (0 : Int32)), .val (.int z4), .val (.ref b6), .val (.ref b6), .val (.ref b9), .val .null, .val (.int z12), .unset, .unset, .unset, .unset, .unset] [(.int (if (p4 &&& (2 : Int32)) = (0 : Int32) then (0 : Int32) else (1 : Int32)))])) (fun t k => ?_) ?_
        · by_cases hd13 : (p4 &&& (2 : Int32)) = (0 : Int32)
          · skip
            rw [(if_pos hd13 : (if (p4 &&& (2 : Int32)) = (0 : Int32) then (0 : Int32) else (1 : Int32)) = (0 : Int32))] at k
            show Steps p.tables e below (T8.setTop (mkF m 98 #[.val (.int p1), .val (.int p2), .val (.int p3), .val (.int p4), .val (.int (0 : Int32)), .val (.int z4), .val (.ref b6), .val (.ref b6), .val (.ref b9), .val .null, .val (.int z12), .unset, .unset, .unset, .unset, .unset] [(.int (p4 &&& (2 : Int32)))])) _
            refine XS.ifYes X8.here hx rfl (pc0 := 98) (pc' := 105) rfl (hb hby at_98) rfl ((if0 _ _).trans (teq hd13).1) (by decide) (by decide) ?_
            show Steps p.tables e below (T8.setTop (mkF m 105 #[.val (.int p1), .val (.int p2), .val (.int p3), .val (.int p4), .val (.int (0 : Int32)), .val (.int z4), .val (.ref b6), .val (.ref b6), .val (.ref b9), .val .null, .val (.int z12), .unset, .unset, .unset, .unset, .unset] [])) _
            refine XS.iconst X8.here hx rfl (hb hby at_105) ?_
            show Steps p.tables e below (T8.setTop (mkF m 106 #[.val (.int p1), .val (.int p2), .val (.int p3), .val (.int p4), .val (.int (0 : Int32)), .val (.int z4), .val (.ref b6), .val (.ref b6), .val (.ref b9), .val .null, .val (.int z12), .unset, .unset, .unset, .unset, .unset] [(.int (0 : Int32))])) _
            exact k
          · skip
            rw [(if_neg hd13 : (if (p4 &&& (2 : Int32)) = (0 : Int32) then (0 : Int32) else (1 : Int32)) = (1 : Int32))] at k
            show Steps p.tables e below (T8.setTop (mkF m 98 #[.val (.int p1), .val (.int p2), .val (.int p3), .val (.int p4), .val (.int (0 : Int32)), .val (.int z4), .val (.ref b6), .val (.ref b6), .val (.ref b9), .val .null, .val (.int z12), .unset, .unset, .unset, .unset, .unset] [(.int (p4 &&& (2 : Int32)))])) _
            refine XS.ifNo X8.here hx rfl (hb hby at_98) rfl ((if0 _ _).trans (feq hd13).1) ?_
            show Steps p.tables e below (T8.setTop (mkF m 101 #[.val (.int p1), .val (.int p2), .val (.int p3), .val (.int p4), .val (.int (0 : Int32)), .val (.int z4), .val (.ref b6), .val (.ref b6), .val (.ref b9), .val .null, .val (.int z12), .unset, .unset, .unset, .unset, .unset] [])) _
            refine XS.iconst X8.here hx rfl (hb hby at_101) ?_
            show Steps p.tables e below (T8.setTop (mkF m 102 #[.val (.int p1), .val (.int p2), .val (.int p3), .val (.int p4), .val (.int (0 : Int32)), .val (.int z4), .val (.ref b6), .val (.ref b6), .val (.ref b9), .val .null, .val (.int z12), .unset, .unset, .unset, .unset, .unset] [(.int (1 : Int32))])) _
            refine XS.goto X8.here hx rfl (pc0 := 102) (pc' := 106) rfl (hb hby at_102) (by decide) (by decide) ?_
            show Steps p.tables e below (T8.setTop (mkF m 106 #[.val (.int p1), .val (.int p2), .val (.int p3), .val (.int p4), .val (.int (0 : Int32)), .val (.int z4), .val (.ref b6), .val (.ref b6), .val (.ref b9), .val .null, .val (.int z12), .unset, .unset, .unset, .unset, .unset] [(.int (1 : Int32))])) _
            exact k
        show Go p.tables e below T8 (mkF m 106 #[.val (.int p1), .val (.int p2), .val (.int p3), .val (.int p4), .val (.int (0 : Int32)), .val (.int z4), .val (.ref b6), .val (.ref b6), .val (.ref b9), .val .null, .val (.int z12), .unset, .unset, .unset, .unset, .unset] [(.int (if (p4 &&& (2 : Int32)) = (0 : Int32) then (0 : Int32) else (1 : Int32)))]) _
        obtain ⟨z14, hz14⟩ : ∃ z : Int32, z = (if (p4 &&& (2 : Int32)) = (0 : Int32) then (0 : Int32) else (1 : Int32)) := ⟨_, rfl⟩
        rw [← hz14]
        show Go p.tables e below T8 (mkF m 106 #[.val (.int p1), .val (.int p2), .val (.int p3), .val (.int p4), .val (.int (0 : Int32)), .val (.int z4), .val (.ref b6), .val (.ref b6), .val (.ref b9), .val .null, .val (.int z12), .unset, .unset, .unset, .unset, .unset] [(.int z14)]) _
        refine go1 (fun _ => XS.istore X8.here hx rfl (hb hby at_106) rfl (l' := #[.val (.int p1), .val (.int p2), .val (.int p3), .val (.int p4), .val (.int (0 : Int32)), .val (.int z4), .val (.ref b6), .val (.ref b6), .val (.ref b9), .val .null, .val (.int z12), .val (.int z14), .unset, .unset, .unset, .unset]) rfl) ?_
        show Go p.tables e below T8 (mkF m 108 #[.val (.int p1), .val (.int p2), .val (.int p3), .val (.int p4), .val (.int (0 : Int32)), .val (.int z4), .val (.ref b6), .val (.ref b6), .val (.ref b9), .val .null, .val (.int z12), .val (.int z14), .unset, .unset, .unset, .unset] []) _
        refine go1 (fun _ => XS.iloadN X8.here hx rfl (hb hby at_108) rfl) ?_
        show Go p.tables e below T8 (mkF m 109 #[.val (.int p1), .val (.int p2), .val (.int p3), .val (.int p4), .val (.int (0 : Int32)), .val (.int z4), .val (.ref b6), .val (.ref b6), .val (.ref b9), .val .null, .val (.int z12), .val (.int z14), .unset, .unset, .unset, .unset] [(.int p4)]) _
        refine go1 (fun _ => XS.iconst X8.here hx rfl (hb hby at_109)) ?_
        show Go p.tables e below T8 (mkF m 110 #[.val (.int p1), .val (.int p2), .val (.int p3), .val (.int p4), .val (.int (0 : Int32)), .val (.int z4), .val (.ref b6), .val (.ref b6), .val (.ref b9), .val .null, .val (.int z12), .val (.int z14), .unset, .unset, .unset, .unset] [(.int (4 : Int32)), (.int p4)]) _
        refine go1 (fun _ => XS.iand X8.here hx rfl (hb hby at_110) rfl) ?_
        show Go p.tables e below T8 (mkF m 111 #[.val (.int p1), .val (.int p2), .val (.int p3), .val (.int p4), .val (.int (0 : Int32)), .val (.int z4), .val (.ref b6), .val (.ref b6), .val (.ref b9), .val .null, .val (.int z12), .val (.int z14), .unset, .unset, .unset, .unset] [(.int (p4 &&& (4 : Int32)))]) _
        refine go1 (T' := T8) (g' := (mkF m 119 #[.val (.int p1), .val (.int p2), .val (.int p3), .val (.int p4), .val (.int (0 : Int32)), .val (.int z4), .val (.ref b6), .val (.ref b6), .val (.ref b9), .val .null, .val (.int z12), .val (.int z14), .unset, .unset, .unset, .unset] [(.int (if (p4 &&& (4 : Int32)) = (0 : Int32) then (0 : Int32) else (1 : Int32)))])) (fun t k => ?_) ?_
        · by_cases hd15 : (p4 &&& (4 : Int32)) = (0 : Int32)
          · skip
            rw [(if_pos hd15 : (if (p4 &&& (4 : Int32)) = (0 : Int32) then (0 : Int32) else (1 : Int32)) = (0 : Int32))] at k
            show Steps p.tables e below (T8.setTop (mkF m 111 #[.val (.int p1), .val (.int p2), .val (.int p3), .val (.int p4), .val (.int (0 : Int32)), .val (.int z4), .val (.ref b6), .val (.ref b6), .val (.ref b9), .val .null, .val (.int z12), .val (.int z14), .unset, .unset, .unset, .unset] [(.int (p4 &&& (4 : Int32)))])) _
            refine XS.ifYes X8.here hx rfl (pc0 := 111) (pc' := 118) rfl (hb hby at_111) rfl ((if0 _ _).trans (teq hd15).1) (by decide) (by decide) ?_
            show Steps p.tables e below (T8.setTop (mkF m 118 #[.val (.int p1), .val (.int p2), .val (.int p3), .val (.int p4), .val (.int (0 : Int32)), .val (.int z4), .val (.ref b6), .val (.ref b6), .val (.ref b9), .val .null, .val (.int z12), .val (.int z14), .unset, .unset, .unset, .unset] [])) _
            refine XS.iconst X8.here hx rfl (hb hby at_118) ?_
            show Steps p.tables e below (T8.setTop (mkF m 119 #[.val (.int p1), .val (.int p2), .val (.int p3), .val (.int p4), .val (.int (0 : Int32)), .val (.int z4), .val (.ref b6), .val (.ref b6), .val (.ref b9), .val .null, .val (.int z12), .val (.int z14), .unset, .unset, .unset, .unset] [(.int (0 : Int32))])) _
            exact k
          · skip
            rw [(if_neg hd15 : (if (p4 &&& (4 : Int32)) = (0 : Int32) then (0 : Int32) else (1 : Int32)) = (1 : Int32))] at k
            show Steps p.tables e below (T8.setTop (mkF m 111 #[.val (.int p1), .val (.int p2), .val (.int p3), .val (.int p4), .val (.int (0 : Int32)), .val (.int z4), .val (.ref b6), .val (.ref b6), .val (.ref b9), .val .null, .val (.int z12), .val (.int z14), .unset, .unset, .unset, .unset] [(.int (p4 &&& (4 : Int32)))])) _
            refine XS.ifNo X8.here hx rfl (hb hby at_111) rfl ((if0 _ _).trans (feq hd15).1) ?_
            show Steps p.tables e below (T8.setTop (mkF m 114 #[.val (.int p1), .val (.int p2), .val (.int p3), .val (.int p4), .val (.int (0 : Int32)), .val (.int z4), .val (.ref b6), .val (.ref b6), .val (.ref b9), .val .null, .val (.int z12), .val (.int z14), .unset, .unset, .unset, .unset] [])) _
            refine XS.iconst X8.here hx rfl (hb hby at_114) ?_
            show Steps p.tables e below (T8.setTop (mkF m 115 #[.val (.int p1), .val (.int p2), .val (.int p3), .val (.int p4), .val (.int (0 : Int32)), .val (.int z4), .val (.ref b6), .val (.ref b6), .val (.ref b9), .val .null, .val (.int z12), .val (.int z14), .unset, .unset, .unset, .unset] [(.int (1 : Int32))])) _
            refine XS.goto X8.here hx rfl (pc0 := 115) (pc' := 119) rfl (hb hby at_115) (by decide) (by decide) ?_
            show Steps p.tables e below (T8.setTop (mkF m 119 #[.val (.int p1), .val (.int p2), .val (.int p3), .val (.int p4), .val (.int (0 : Int32)), .val (.int z4), .val (.ref b6), .val (.ref b6), .val (.ref b9), .val .null, .val (.int z12), .val (.int z14), .unset, .unset, .unset, .unset] [(.int (1 : Int32))])) _
            exact k
        show Go p.tables e below T8 (mkF m 119 #[.val (.int p1), .val (.int p2), .val (.int p3), .val (.int p4), .val (.int (0 : Int32)), .val (.int z4), .val (.ref b6), .val (.ref b6), .val (.ref b9), .val .null, .val (.int z12), .val (.int z14), .unset, .unset, .unset, .unset] [(.int (if (p4 &&& (4 : Int32)) = (0 : Int32) then (0 : Int32) else (1 : Int32)))]) _
        obtain ⟨z16, hz16⟩ : ∃ z : Int32, z = (if (p4 &&& (4 : Int32)) = (0 : Int32) then (0 : Int32) else (1 : Int32)) := ⟨_, rfl⟩
        rw [← hz16]
        show Go p.tables e below T8 (mkF m 119 #[.val (.int p1), .val (.int p2), .val (.int p3), .val (.int p4), .val (.int (0 : Int32)), .val (.int z4), .val (.ref b6), .val (.ref b6), .val (.ref b9), .val .null, .val (.int z12), .val (.int z14), .unset, .unset, .unset, .unset] [(.int z16)]) _
        refine go1 (fun _ => XS.istore X8.here hx rfl (hb hby at_119) rfl (l' := #[.val (.int p1), .val (.int p2), .val (.int p3), .val (.int p4), .val (.int (0 : Int32)), .val (.int z4), .val (.ref b6), .val (.ref b6), .val (.ref b9), .val .null, .val (.int z12), .val (.int z14), .val (.int z16), .unset, .unset, .unset]) rfl) ?_
        show Go p.tables e below T8 (mkF m 121 #[.val (.int p1), .val (.int p2), .val (.int p3), .val (.int p4), .val (.int (0 : Int32)), .val (.int z4), .val (.ref b6), .val (.ref b6), .val (.ref b9), .val .null, .val (.int z12), .val (.int z14), .val (.int z16), .unset, .unset, .unset] []) _
        refine go1 (fun _ => XS.iload X8.here hx rfl (hb hby at_121) rfl) ?_
        show Go p.tables e below T8 (mkF m 123 #[.val (.int p1), .val (.int p2), .val (.int p3), .val (.int p4), .val (.int (0 : Int32)), .val (.int z4), .val (.ref b6), .val (.ref b6), .val (.ref b9), .val .null, .val (.int z12), .val (.int z14), .val (.int z16), .unset, .unset, .unset] [(.int (0 : Int32))]) _
        refine go1 (fun _ => XS.ifYes X8.here hx rfl (pc0 := 123) (pc' := 131) rfl (hb hby at_123) rfl ((if0 _ _).trans (teq (by decide : (0 : Int32) = (0 : Int32))).1) (by decide) (by decide)) ?_
        show Go p.tables e below T8 (mkF m 131 #[.val (.int p1), .val (.int p2), .val (.int p3), .val (.int p4), .val (.int (0 : Int32)), .val (.int z4), .val (.ref b6), .val (.ref b6), .val (.ref b9), .val .null, .val (.int z12), .val (.int z14), .val (.int z16), .unset, .unset, .unset] []) _
        refine go1 (fun _ => XS.aconstNull X8.here hx rfl (hb hby at_131)) ?_
        show Go p.tables e below T8 (mkF m 132 #[.val (.int p1), .val (.int p2), .val (.int p3), .val (.int p4), .val (.int (0 : Int32)), .val (.int z4), .val (.ref b6), .val (.ref b6), .val (.ref b9), .val .null, .val (.int z12), .val (.int z14), .val (.int z16), .unset, .unset, .unset] [.null]) _
        refine go1 (fun _ => XS.astore X8.here hx rfl (hb hby at_132) rfl rfl (l' := #[.val (.int p1), .val (.int p2), .val (.int p3), .val (.int p4), .val (.int (0 : Int32)), .val (.int z4), .val (.ref b6), .val (.ref b6), .val (.ref b9), .val .null, .val (.int z12), .val (.int z14), .val (.int z16), .val .null, .unset, .unset]) rfl) ?_
        show Go p.tables e below T8 (mkF m 134 #[.val (.int p1), .val (.int p2), .val (.int p3), .val (.int p4), .val (.int (0 : Int32)), .val (.int z4), .val (.ref b6), .val (.ref b6), .val (.ref b9), .val .null, .val (.int z12), .val (.int z14), .val (.int z16), .val .null, .unset, .unset] []) _
        obtain ⟨T17, h17, X17, e17, E17, A17, D17, -, st17⟩ := newO X8 hx hZ8 hown8 (hw _ (List.mem_of_getElem? (i := 12) rfl)) (hw _ (List.mem_of_getElem? (i := 13) rfl)) (hw _ (List.mem_of_getElem? (i := 14) rfl)) rfl (g := (mkF m 134 #[.val (.int p1), .val (.int p2), .val (.int p3), .val (.int p4), .val (.int (0 : Int32)), .val (.int z4), .val (.ref b6), .val (.ref b6), .val (.ref b9), .val .null, .val (.int z12), .val (.int z14), .val (.int z16), .val .null, .unset, .unset] [])) rfl (hb hby at_134) (by decide) (by decide)
        obtain ⟨b17, g17⟩ : ∃ z, z = T8.heap.size := ⟨_, rfl⟩
        rw [← g17] at A17 D17 st17
        have g_b17 : n0 ≤ b17 := Nat.le_trans (Nat.le_trans (Nat.le_trans Z0 K5.1) K8.1) (Nat.le_of_eq g17.symm)
        have F_name_b17 : Fld Z h17 b17 "com/example/enrout/enrout/broker/cli/Option" "name" "Ljava/lang/String;" .null := D17 (Or.inr (hw _ (List.mem_of_getElem? (i := 27) rfl))) (ty := (.object "java/lang/String")) (by decide)
        have F_value_b17 : Fld Z h17 b17 "com/example/enrout/enrout/broker/cli/Option" "value" "Ljava/lang/String;" .null := D17 (Or.inr (hw _ (List.mem_of_getElem? (i := 29) rfl))) (ty := (.object "java/lang/String")) (by decide)
        have F_help_b17 : Fld Z h17 b17 "com/example/enrout/enrout/broker/cli/Option" "help" "Ljava/lang/String;" .null := D17 (Or.inr (hw _ (List.mem_of_getElem? (i := 31) rfl))) (ty := (.object "java/lang/String")) (by decide)
        have F_defaultValue_b17 : Fld Z h17 b17 "com/example/enrout/enrout/broker/cli/Option" "defaultValue" "Ljava/lang/String;" .null := D17 (Or.inr (hw _ (List.mem_of_getElem? (i := 33) rfl))) (ty := (.object "java/lang/String")) (by decide)
        have F_required_b17 : Fld Z h17 b17 "com/example/enrout/enrout/broker/cli/Option" "required" "Z" (.int (0 : Int32)) := D17 (Or.inr (hw _ (List.mem_of_getElem? (i := 35) rfl))) (ty := .boolean) (by decide)
        have F_repeatable_b17 : Fld Z h17 b17 "com/example/enrout/enrout/broker/cli/Option" "repeatable" "Z" (.int (0 : Int32)) := D17 (Or.inr (hw _ (List.mem_of_getElem? (i := 37) rfl))) (ty := .boolean) (by decide)
        have F_several_b17 : Fld Z h17 b17 "com/example/enrout/enrout/broker/cli/Option" "several" "Z" (.int (0 : Int32)) := D17 (Or.inr (hw _ (List.mem_of_getElem? (i := 39) rfl))) (ty := .boolean) (by decide)
        refine go1 st17 ?_
        show Go p.tables e below T17 (mkF m 137 #[.val (.int p1), .val (.int p2), .val (.int p3), .val (.int p4), .val (.int (0 : Int32)), .val (.int z4), .val (.ref b6), .val (.ref b6), .val (.ref b9), .val .null, .val (.int z12), .val (.int z14), .val (.int z16), .val .null, .unset, .unset] [(.ref b17)]) _
        refine go1 (fun _ => XS.dup X17.here hx rfl (hb hby at_137) rfl rfl) ?_
        show Go p.tables e below T17 (mkF m 138 #[.val (.int p1), .val (.int p2), .val (.int p3), .val (.int p4), .val (.int (0 : Int32)), .val (.int z4), .val (.ref b6), .val (.ref b6), .val (.ref b9), .val .null, .val (.int z12), .val (.int z14), .val (.int z16), .val .null, .unset, .unset] [(.ref b17), (.ref b17)]) _
        refine go1 (fun _ => XS.aload X17.here hx rfl (hb hby at_138) rfl rfl) ?_
        show Go p.tables e below T17 (mkF m 140 #[.val (.int p1), .val (.int p2), .val (.int p3), .val (.int p4), .val (.int (0 : Int32)), .val (.int z4), .val (.ref b6), .val (.ref b6), .val (.ref b9), .val .null, .val (.int z12), .val (.int z14), .val (.int z16), .val .null, .unset, .unset] [(.ref b6), (.ref b17), (.ref b17)]) _
        refine go1 (fun _ => XS.aload X17.here hx rfl (hb hby at_140) rfl rfl) ?_
        show Go p.tables e below T17 (mkF m 142 #[.val (.int p1), .val (.int p2), .val (.int p3), .val (.int p4), .val (.int (0 : Int32)), .val (.int z4), .val (.ref b6), .val (.ref b6), .val (.ref b9), .val .null, .val (.int z12), .val (.int z14), .val (.int z16), .val .null, .unset, .unset] [.null, (.ref b6), (.ref b17), (.ref b17)]) _
        refine go1 (fun _ => XS.aload X17.here hx rfl (hb hby at_142) rfl rfl) ?_
        show Go p.tables e below T17 (mkF m 144 #[.val (.int p1), .val (.int p2), .val (.int p3), .val (.int p4), .val (.int (0 : Int32)), .val (.int z4), .val (.ref b6), .val (.ref b6), .val (.ref b9), .val .null, .val (.int z12), .val (.int z14), .val (.int z16), .val .null, .unset, .unset] [(.ref b9), .null, (.ref b6), (.ref b17), (.ref b17)]) _
        refine go1 (fun _ => XS.aload X17.here hx rfl (hb hby at_144) rfl rfl) ?_
        show Go p.tables e below T17 (mkF m 146 #[.val (.int p1), .val (.int p2), .val (.int p3), .val (.int p4), .val (.int (0 : Int32)), .val (.int z4), .val (.ref b6), .val (.ref b6), .val (.ref b9), .val .null, .val (.int z12), .val (.int z14), .val (.int z16), .val .null, .unset, .unset] [.null, (.ref b9), .null, (.ref b6), (.ref b17), (.ref b17)]) _
        refine go1 (fun _ => XS.iload X17.here hx rfl (hb hby at_146) rfl) ?_
        show Go p.tables e below T17 (mkF m 148 #[.val (.int p1), .val (.int p2), .val (.int p3), .val (.int p4), .val (.int (0 : Int32)), .val (.int z4), .val (.ref b6), .val (.ref b6), .val (.ref b9), .val .null, .val (.int z12), .val (.int z14), .val (.int z16), .val .null, .unset, .unset] [(.int z12), .null, (.ref b9), .null, (.ref b6), (.ref b17), (.ref b17)]) _
        refine go1 (fun _ => XS.iload X17.here hx rfl (hb hby at_148) rfl) ?_
        show Go p.tables e below T17 (mkF m 150 #[.val (.int p1), .val (.int p2), .val (.int p3), .val (.int p4), .val (.int (0 : Int32)), .val (.int z4), .val (.ref b6), .val (.ref b6), .val (.ref b9), .val .null, .val (.int z12), .val (.int z14), .val (.int z16), .val .null, .unset, .unset] [(.int z14), (.int z12), .null, (.ref b9), .null, (.ref b6), (.ref b17), (.ref b17)]) _
        refine go1 (fun _ => XS.iload X17.here hx rfl (hb hby at_150) rfl) ?_
        show Go p.tables e below T17 (mkF m 152 #[.val (.int p1), .val (.int p2), .val (.int p3), .val (.int p4), .val (.int (0 : Int32)), .val (.int z4), .val (.ref b6), .val (.ref b6), .val (.ref b9), .val .null, .val (.int z12), .val (.int z14), .val (.int z16), .val .null, .unset, .unset] [(.int z16), (.int z14), (.int z12), .null, (.ref b9), .null, (.ref b6), (.ref b17), (.ref b17)]) _
        obtain ⟨_, _, ⟨T18, L18, k18, n18⟩, -, X18, ⟨Lc18, hQ18, l18, y18, z18⟩, st18⟩ := X17.specialBack hx (y := (⟨"com/example/enrout/enrout/broker/cli/Option", "<init>", "(Ljava/lang/String;Ljava/lang/String;Ljava/lang/String;Ljava/lang/String;ZZZ)V"⟩ : MethodName)) rfl hown8 (mvT hZ8 (hw _ (List.mem_of_getElem? (i := 15) rfl))) (mvT hZ8 (hw _ (List.mem_of_getElem? (i := 16) rfl))) (mvT hZ8 (hw _ (List.mem_of_getElem? (i := 17) rfl))) (by decide) (backOf (W := 1) (rm2 l Z a0 hw [] b17 (.ref b6) .null (.ref b9) .null z12 z14 z16 h17 n0 (Nat.le_trans (Nat.le_trans (Nat.le_trans Z0 K5.1) K8.1) E17.1) F_name_b17 F_value_b17 F_help_b17 F_defaultValue_b17 F_required_b17 F_repeatable_b17 F_several_b17 A17 g_b17 (by first | assumption | decide | rfl) (by first | assumption | decide | rfl) (by first | assumption | decide | rfl) (by first | assumption | decide | rfl)) hZ8 (hw _ (List.mem_of_getElem? (i := 17) rfl)) (hw _ (List.mem_of_getElem? (i := 14) rfl)) (by decide) (by decide)) (g := (mkF m 152 #[.val (.int p1), .val (.int p2), .val (.int p3), .val (.int p4), .val (.int (0 : Int32)), .val (.int z4), .val (.ref b6), .val (.ref b6), .val (.ref b9), .val .null, .val (.int z12), .val (.int z14), .val (.int z16), .val .null, .unset, .unset] [(.int z16), (.int z14), (.int z12), .null, (.ref b9), .null, (.ref b6), (.ref b17), (.ref b17)])) rfl (by rw [hml]; rfl) (Steps.refl _) (a := b17) (argsL := [(.ref b6), .null, (.ref b9), .null, (.int z12), (.int z14), (.int z16)]) (rest := [(.ref b17)]) (lenOf pd0_1 rfl) rfl (by show 2 * 0 + _ ≤ _; exact Nat.le_of_eq rfl) (hb hby at_152) (fun _ _ => ⟨rfl, e17, (by decide : 7 + 0 ≤ _), (by decide : 23 + 0 ≤ _)⟩)
        dsimp only [Pt.U, Pt.locs, Pt.cells, Pt.slots] at X18 l18 y18 z18 st18 hQ18
        subst l18 y18 z18
        obtain ⟨rfl, N18q, K18, G18_0, G18_1⟩ := hQ18
        have N18 := Fr.app N8 N18q
        refine goT st18 ?_
        show Go p.tables e below T18 (mkF m 155 #[.val (.int p1), .val (.int p2), .val (.int p3), .val (.int p4), .val (.int (0 : Int32)), .val (.int z4), .val (.ref b6), .val (.ref b6), .val (.ref b9), .val .null, .val (.int z12), .val (.int z14), .val (.int z16), .val .null, .unset, .unset] [(.ref b17)]) _
        refine go1 (fun _ => XS.astore X18.here hx rfl (hb hby at_155) rfl rfl (l' := #[.val (.int p1), .val (.int p2), .val (.int p3), .val (.int p4), .val (.int (0 : Int32)), .val (.int z4), .val (.ref b6), .val (.ref b6), .val (.ref b9), .val .null, .val (.int z12), .val (.int z14), .val (.int z16), .val .null, .val (.ref b17), .unset]) rfl) ?_
        show Go p.tables e below T18 (mkF m 157 #[.val (.int p1), .val (.int p2), .val (.int p3), .val (.int p4), .val (.int (0 : Int32)), .val (.int z4), .val (.ref b6), .val (.ref b6), .val (.ref b9), .val .null, .val (.int z12), .val (.int z14), .val (.int z16), .val .null, .val (.ref b17), .unset] []) _
        refine go1 (fun _ => XS.aload X18.here hx rfl (hb hby at_157) rfl rfl) ?_
        show Go p.tables e below T18 (mkF m 159 #[.val (.int p1), .val (.int p2), .val (.int p3), .val (.int p4), .val (.int (0 : Int32)), .val (.int z4), .val (.ref b6), .val (.ref b6), .val (.ref b9), .val .null, .val (.int z12), .val (.int z14), .val (.int z16), .val .null, .val (.ref b17), .unset] [(.ref b17)]) _
        obtain ⟨cq19, kq19, q19a, q19b, q19c⟩ := isOf hZ8 rfl G18_0
        obtain ⟨_, _, ⟨T19, L19, k19, n19⟩, -, X19, ⟨Lc19, hQ19, l19, y19, z19⟩, st19⟩ := X18.virtualBack hx (y := (⟨"com/example/enrout/enrout/broker/cli/Option", "isFlag", "()Z"⟩ : MethodName)) (z := (⟨"com/example/enrout/enrout/broker/cli/Option", "isFlag", "()Z"⟩ : MethodName)) hown8 (mvT hZ8 (hw _ (List.mem_of_getElem? (i := 40) rfl))) (mvT hZ8 (hw _ (List.mem_of_getElem? (i := 41) rfl))) (notFace_of_selects (args := #[]) (mvT hZ8 (hw _ (List.mem_of_getElem? (i := 43) rfl)))) (mvT hZ8 (hw _ (List.mem_of_getElem? (i := 43) rfl))) (mvT hZ8 (hw _ (List.mem_of_getElem? (i := 42) rfl))) (by decide) (backOf (W := 0) (rmisa l Z a0 hw [] b17 T18.heap n0 (Nat.le_trans (Nat.le_trans (Nat.le_trans (Nat.le_trans Z0 K5.1) K8.1) E17.1) K18.1) G18_1) hZ8 (hw _ (List.mem_of_getElem? (i := 44) rfl)) (hw _ (List.mem_of_getElem? (i := 14) rfl)) (by decide) (by decide)) q19a q19c (g := (mkF m 159 #[.val (.int p1), .val (.int p2), .val (.int p3), .val (.int p4), .val (.int (0 : Int32)), .val (.int z4), .val (.ref b6), .val (.ref b6), .val (.ref b9), .val .null, .val (.int z12), .val (.int z14), .val (.int z16), .val .null, .val (.ref b17), .unset] [(.ref b17)])) rfl (by rw [hml]; rfl) (Steps.refl _) (argsL := []) (rest := []) (lenOf pd0_2 rfl) rfl (by show 2 * 0 + _ ≤ _; exact Nat.le_of_eq rfl) (hb hby at_159) (fun _ _ => ⟨rfl, rfl, (by decide : 7 + 0 ≤ _), (by decide : 23 + 0 ≤ _)⟩)
        dsimp only [Pt.U, Pt.locs, Pt.cells, Pt.slots] at X19 l19 y19 z19 st19 hQ19
        subst l19 y19 z19
        obtain ⟨rfl, N19q, e19⟩ := hQ19
        have N19 := Fr.app N18 N19q
        refine goT st19 ?_
        show Go p.tables e below T19 (mkF m 162 #[.val (.int p1), .val (.int p2), .val (.int p3), .val (.int p4), .val (.int (0 : Int32)), .val (.int z4), .val (.ref b6), .val (.ref b6), .val (.ref b9), .val .null, .val (.int z12), .val (.int z14), .val (.int z16), .val .null, .val (.ref b17), .unset] [(.int (1 : Int32))]) _
        refine go1 (fun _ => XS.iload X19.here hx rfl (hb hby at_162) rfl) ?_
        show Go p.tables e below T19 (mkF m 164 #[.val (.int p1), .val (.int p2), .val (.int p3), .val (.int p4), .val (.int (0 : Int32)), .val (.int z4), .val (.ref b6), .val (.ref b6), .val (.ref b9), .val .null, .val (.int z12), .val (.int z14), .val (.int z16), .val .null, .val (.ref b17), .unset] [(.int (0 : Int32)), (.int (1 : Int32))]) _
        refine go1 (fun _ => XS.ifNo X19.here hx rfl (hb hby at_164) rfl ((if0 _ _).trans (teq (by decide : (0 : Int32) = (0 : Int32))).2)) ?_
        show Go p.tables e below T19 (mkF m 167 #[.val (.int p1), .val (.int p2), .val (.int p3), .val (.int p4), .val (.int (0 : Int32)), .val (.int z4), .val (.ref b6), .val (.ref b6), .val (.ref b9), .val .null, .val (.int z12), .val (.int z14), .val (.int z16), .val .null, .val (.ref b17), .unset] [(.int (1 : Int32))]) _
        refine go1 (fun _ => XS.iconst X19.here hx rfl (hb hby at_167)) ?_
        show Go p.tables e below T19 (mkF m 168 #[.val (.int p1), .val (.int p2), .val (.int p3), .val (.int p4), .val (.int (0 : Int32)), .val (.int z4), .val (.ref b6), .val (.ref b6), .val (.ref b9), .val .null, .val (.int z12), .val (.int z14), .val (.int z16), .val .null, .val (.ref b17), .unset] [(.int (1 : Int32)), (.int (1 : Int32))]) _
        refine go1 (fun _ => XS.goto X19.here hx rfl (pc0 := 168) (pc' := 172) rfl (hb hby at_168) (by decide) (by decide)) ?_
        show Go p.tables e below T19 (mkF m 172 #[.val (.int p1), .val (.int p2), .val (.int p3), .val (.int p4), .val (.int (0 : Int32)), .val (.int z4), .val (.ref b6), .val (.ref b6), .val (.ref b9), .val .null, .val (.int z12), .val (.int z14), .val (.int z16), .val .null, .val (.ref b17), .unset] [(.int (1 : Int32)), (.int (1 : Int32))]) _
        refine go1 (fun _ => XS.icmpNo X19.here hx rfl (hb hby at_172) rfl (teq (by decide : (1 : Int32) = (1 : Int32))).2) ?_
        show Go p.tables e below T19 (mkF m 175 #[.val (.int p1), .val (.int p2), .val (.int p3), .val (.int p4), .val (.int (0 : Int32)), .val (.int z4), .val (.ref b6), .val (.ref b6), .val (.ref b9), .val .null, .val (.int z12), .val (.int z14), .val (.int z16), .val .null, .val (.ref b17), .unset] []) _
        refine go1 (fun _ => XS.iconst X19.here hx rfl (hb hby at_175)) ?_
        show Go p.tables e below T19 (mkF m 176 #[.val (.int p1), .val (.int p2), .val (.int p3), .val (.int p4), .val (.int (0 : Int32)), .val (.int z4), .val (.ref b6), .val (.ref b6), .val (.ref b9), .val .null, .val (.int z12), .val (.int z14), .val (.int z16), .val .null, .val (.ref b17), .unset] [(.int (1 : Int32))]) _
        refine go1 (fun _ => XS.goto X19.here hx rfl (pc0 := 176) (pc' := 180) rfl (hb hby at_176) (by decide) (by decide)) ?_
        show Go p.tables e below T19 (mkF m 180 #[.val (.int p1), .val (.int p2), .val (.int p3), .val (.int p4), .val (.int (0 : Int32)), .val (.int z4), .val (.ref b6), .val (.ref b6), .val (.ref b9), .val .null, .val (.int z12), .val (.int z14), .val (.int z16), .val .null, .val (.ref b17), .unset] [(.int (1 : Int32))]) _
        refine go1 (fun _ => XS.istore X19.here hx rfl (hb hby at_180) rfl (l' := #[.val (.int p1), .val (.int p2), .val (.int p3), .val (.int p4), .val (.int (0 : Int32)), .val (.int z4), .val (.ref b6), .val (.ref b6), .val (.ref b9), .val .null, .val (.int z12), .val (.int z14), .val (.int z16), .val .null, .val (.ref b17), .val (.int (1 : Int32))]) rfl) ?_
        show Go p.tables e below T19 (mkF m 182 #[.val (.int p1), .val (.int p2), .val (.int p3), .val (.int p4), .val (.int (0 : Int32)), .val (.int z4), .val (.ref b6), .val (.ref b6), .val (.ref b9), .val .null, .val (.int z12), .val (.int z14), .val (.int z16), .val .null, .val (.ref b17), .val (.int (1 : Int32))] []) _
        refine go1 (fun _ => XS.iload X19.here hx rfl (hb hby at_182) rfl) ?_
        show Go p.tables e below T19 (mkF m 184 #[.val (.int p1), .val (.int p2), .val (.int p3), .val (.int p4), .val (.int (0 : Int32)), .val (.int z4), .val (.ref b6), .val (.ref b6), .val (.ref b9), .val .null, .val (.int z12), .val (.int z14), .val (.int z16), .val .null, .val (.ref b17), .val (.int (1 : Int32))] [(.int (1 : Int32))]) _
        refine go1 (fun _ => XS.ifNo X19.here hx rfl (hb hby at_184) rfl ((if0 _ _).trans (feq (by decide : ¬ ((1 : Int32) = (0 : Int32)))).1)) ?_
        show Go p.tables e below T19 (mkF m 187 #[.val (.int p1), .val (.int p2), .val (.int p3), .val (.int p4), .val (.int (0 : Int32)), .val (.int z4), .val (.ref b6), .val (.ref b6), .val (.ref b9), .val .null, .val (.int z12), .val (.int z14), .val (.int z16), .val .null, .val (.ref b17), .val (.int (1 : Int32))] []) _
        refine go1 (fun _ => XS.aload X19.here hx rfl (hb hby at_187) rfl rfl) ?_
        show Go p.tables e below T19 (mkF m 189 #[.val (.int p1), .val (.int p2), .val (.int p3), .val (.int p4), .val (.int (0 : Int32)), .val (.int z4), .val (.ref b6), .val (.ref b6), .val (.ref b9), .val .null, .val (.int z12), .val (.int z14), .val (.int z16), .val .null, .val (.ref b17), .val (.int (1 : Int32))] [(.ref b6)]) _
        refine go1 (fun _ => XS.aload X19.here hx rfl (hb hby at_189) rfl rfl) ?_
        show Go p.tables e below T19 (mkF m 191 #[.val (.int p1), .val (.int p2), .val (.int p3), .val (.int p4), .val (.int (0 : Int32)), .val (.int z4), .val (.ref b6), .val (.ref b6), .val (.ref b9), .val .null, .val (.int z12), .val (.int z14), .val (.int z16), .val .null, .val (.ref b17), .val (.int (1 : Int32))] [(.ref b9), (.ref b6)]) _
        obtain ⟨_, _, ⟨T20, L20, k20, n20⟩, -, X20, ⟨Lc20, hQ20, l20, y20, z20⟩, st20⟩ := Jvm.LawKit.callS X19 hx (y := (⟨"com/example/enrout/enrout/broker/cli/Option", "flag", "(Ljava/lang/String;Ljava/lang/String;)Lcom/example/enrout/enrout/broker/cli/Option;"⟩ : MethodName)) hown8 (mvT hZ8 (hw _ (List.mem_of_getElem? (i := 45) rfl))) (mvT hZ8 (hw _ (List.mem_of_getElem? (i := 46) rfl))) (mvT hZ8 (hw _ (List.mem_of_getElem? (i := 14) rfl))) (mvT hZ8 (hw _ (List.mem_of_getElem? (i := 47) rfl))) (by decide) (backOf (W := 0) (rm6 l Z a0 hw [] b6 b9 T18.heap n0 (Nat.le_trans (Nat.le_trans (Nat.le_trans (Nat.le_trans Z0 K5.1) K8.1) E17.1) K18.1) ) hZ8 (hw _ (List.mem_of_getElem? (i := 47) rfl)) (hw _ (List.mem_of_getElem? (i := 14) rfl)) (by decide) (by decide)) (g := (mkF m 191 #[.val (.int p1), .val (.int p2), .val (.int p3), .val (.int p4), .val (.int (0 : Int32)), .val (.int z4), .val (.ref b6), .val (.ref b6), .val (.ref b9), .val .null, .val (.int z12), .val (.int z14), .val (.int z16), .val .null, .val (.ref b17), .val (.int (1 : Int32))] [(.ref b9), (.ref b6)])) rfl (by rw [hml]; rfl) (argsL := [(.ref b6), (.ref b9)]) (rest := []) (lenOf pd0_3 rfl) rfl (by show 2 * 0 + _ ≤ _; exact Nat.le_of_eq rfl) (hb hby at_191) (fun _ _ => ⟨rfl, e19, (by decide : 7 + 1 ≤ _), (by decide : 23 + 7 ≤ _)⟩)
        dsimp only [Pt.U, Pt.locs, Pt.cells, Pt.slots] at X20 l20 y20 z20 st20 hQ20
        subst l20 y20 z20
        obtain ⟨b21, rfl, N20q, K20, G20_0, G20_1⟩ := hQ20
        have N20 := Fr.app N19 N20q
        refine go1 st20 ?_
        show Go p.tables e below T20 (mkF m 194 #[.val (.int p1), .val (.int p2), .val (.int p3), .val (.int p4), .val (.int (0 : Int32)), .val (.int z4), .val (.ref b6), .val (.ref b6), .val (.ref b9), .val .null, .val (.int z12), .val (.int z14), .val (.int z16), .val .null, .val (.ref b17), .val (.int (1 : Int32))] [(.ref b21)]) _
        obtain ⟨cq22, kq22, q22a, q22b, q22c⟩ := isOf hZ8 rfl G20_0
        obtain ⟨_, _, ⟨T22, L22, k22, n22⟩, -, X22, ⟨Lc22, hQ22, l22, y22, z22⟩, st22⟩ := X20.virtualBack hx (y := (⟨"com/example/enrout/enrout/broker/cli/Option", "isFlag", "()Z"⟩ : MethodName)) (z := (⟨"com/example/enrout/enrout/broker/cli/Option", "isFlag", "()Z"⟩ : MethodName)) hown8 (mvT hZ8 (hw _ (List.mem_of_getElem? (i := 40) rfl))) (mvT hZ8 (hw _ (List.mem_of_getElem? (i := 41) rfl))) (notFace_of_selects (args := #[]) (mvT hZ8 (hw _ (List.mem_of_getElem? (i := 43) rfl)))) (mvT hZ8 (hw _ (List.mem_of_getElem? (i := 43) rfl))) (mvT hZ8 (hw _ (List.mem_of_getElem? (i := 42) rfl))) (by decide) (backOf (W := 0) (rmisa l Z a0 hw [] b21 T20.heap n0 (Nat.le_trans (Nat.le_trans (Nat.le_trans (Nat.le_trans (Nat.le_trans Z0 K5.1) K8.1) E17.1) K18.1) K20.1) G20_1) hZ8 (hw _ (List.mem_of_getElem? (i := 44) rfl)) (hw _ (List.mem_of_getElem? (i := 14) rfl)) (by decide) (by decide)) q22a q22c (g := (mkF m 194 #[.val (.int p1), .val (.int p2), .val (.int p3), .val (.int p4), .val (.int (0 : Int32)), .val (.int z4), .val (.ref b6), .val (.ref b6), .val (.ref b9), .val .null, .val (.int z12), .val (.int z14), .val (.int z16), .val .null, .val (.ref b17), .val (.int (1 : Int32))] [(.ref b21)])) rfl (by rw [hml]; rfl) (Steps.refl _) (argsL := []) (rest := []) (lenOf pd0_2 rfl) rfl (by show 2 * 0 + _ ≤ _; exact Nat.le_of_eq rfl) (hb hby at_194) (fun _ _ => ⟨rfl, rfl, (by decide : 8 + 0 ≤ _), (by decide : 30 + 0 ≤ _)⟩)
        dsimp only [Pt.U, Pt.locs, Pt.cells, Pt.slots] at X22 l22 y22 z22 st22 hQ22
        subst l22 y22 z22
        obtain ⟨rfl, N22q, e22⟩ := hQ22
        have N22 := Fr.app N20 N22q
        refine goT st22 ?_
        show Go p.tables e below T22 (mkF m 197 #[.val (.int p1), .val (.int p2), .val (.int p3), .val (.int p4), .val (.int (0 : Int32)), .val (.int z4), .val (.ref b6), .val (.ref b6), .val (.ref b9), .val .null, .val (.int z12), .val (.int z14), .val (.int z16), .val .null, .val (.ref b17), .val (.int (1 : Int32))] [(.int (1 : Int32))]) _
        refine go1 (fun _ => XS.ifNo X22.here hx rfl (hb hby at_197) rfl ((if0 _ _).trans (feq (by decide : ¬ ((1 : Int32) = (0 : Int32)))).1)) ?_
        show Go p.tables e below T22 (mkF m 200 #[.val (.int p1), .val (.int p2), .val (.int p3), .val (.int p4), .val (.int (0 : Int32)), .val (.int z4), .val (.ref b6), .val (.ref b6), .val (.ref b9), .val .null, .val (.int z12), .val (.int z14), .val (.int z16), .val .null, .val (.ref b17), .val (.int (1 : Int32))] []) _
        refine go1 (fun _ => XS.iconst X22.here hx rfl (hb hby at_200)) ?_
        show Go p.tables e below T22 (mkF m 201 #[.val (.int p1), .val (.int p2), .val (.int p3), .val (.int p4), .val (.int (0 : Int32)), .val (.int z4), .val (.ref b6), .val (.ref b6), .val (.ref b9), .val .null, .val (.int z12), .val (.int z14), .val (.int z16), .val .null, .val (.ref b17), .val (.int (1 : Int32))] [(.int (1 : Int32))]) _
        refine go1 (fun _ => XS.goto X22.here hx rfl (pc0 := 201) (pc' := 205) rfl (hb hby at_201) (by decide) (by decide)) ?_
        show Go p.tables e below T22 (mkF m 205 #[.val (.int p1), .val (.int p2), .val (.int p3), .val (.int p4), .val (.int (0 : Int32)), .val (.int z4), .val (.ref b6), .val (.ref b6), .val (.ref b9), .val .null, .val (.int z12), .val (.int z14), .val (.int z16), .val .null, .val (.ref b17), .val (.int (1 : Int32))] [(.int (1 : Int32))]) _
        refine go1 (fun _ => XS.istore X22.here hx rfl (hb hby at_205) rfl (l' := #[.val (.int p1), .val (.int p2), .val (.int p3), .val (.int p4), .val (.int (0 : Int32)), .val (.int z4), .val (.ref b6), .val (.ref b6), .val (.ref b9), .val .null, .val (.int z12), .val (.int z14), .val (.int z16), .val .null, .val (.ref b17), .val (.int (1 : Int32))]) rfl) ?_
        show Go p.tables e below T22 (mkF m 207 #[.val (.int p1), .val (.int p2), .val (.int p3), .val (.int p4), .val (.int (0 : Int32)), .val (.int z4), .val (.ref b6), .val (.ref b6), .val (.ref b9), .val .null, .val (.int z12), .val (.int z14), .val (.int z16), .val .null, .val (.ref b17), .val (.int (1 : Int32))] []) _
        refine go1 (fun _ => XS.iload X22.here hx rfl (hb hby at_207) rfl) ?_
        show Go p.tables e below T22 (mkF m 209 #[.val (.int p1), .val (.int p2), .val (.int p3), .val (.int p4), .val (.int (0 : Int32)), .val (.int z4), .val (.ref b6), .val (.ref b6), .val (.ref b9), .val .null, .val (.int z12), .val (.int z14), .val (.int z16), .val .null, .val (.ref b17), .val (.int (1 : Int32))] [(.int (1 : Int32))]) _
        refine go1 (fun _ => XS.ifNo X22.here hx rfl (hb hby at_209) rfl ((if0 _ _).trans (feq (by decide : ¬ ((1 : Int32) = (0 : Int32)))).1)) ?_
        show Go p.tables e below T22 (mkF m 212 #[.val (.int p1), .val (.int p2), .val (.int p3), .val (.int p4), .val (.int (0 : Int32)), .val (.int z4), .val (.ref b6), .val (.ref b6), .val (.ref b9), .val .null, .val (.int z12), .val (.int z14), .val (.int z16), .val .null, .val (.ref b17), .val (.int (1 : Int32))] []) _
        refine go1 (fun _ => XS.aload X22.here hx rfl (hb hby at_212) rfl rfl) ?_
        show Go p.tables e below T22 (mkF m 214 #[.val (.int p1), .val (.int p2), .val (.int p3), .val (.int p4), .val (.int (0 : Int32)), .val (.int z4), .val (.ref b6), .val (.ref b6), .val (.ref b9), .val .null, .val (.int z12), .val (.int z14), .val (.int z16), .val .null, .val (.ref b17), .val (.int (1 : Int32))] [(.ref b6)]) _
        refine go1 (fun _ => XS.aload X22.here hx rfl (hb hby at_214) rfl rfl) ?_
        show Go p.tables e below T22 (mkF m 216 #[.val (.int p1), .val (.int p2), .val (.int p3), .val (.int p4), .val (.int (0 : Int32)), .val (.int z4), .val (.ref b6), .val (.ref b6), .val (.ref b9), .val .null, .val (.int z12), .val (.int z14), .val (.int z16), .val .null, .val (.ref b17), .val (.int (1 : Int32))] [(.ref b9), (.ref b6)]) _
        obtain ⟨_, _, ⟨T23, L23, k23, n23⟩, -, X23, ⟨Lc23, hQ23, l23, y23, z23⟩, st23⟩ := Jvm.LawKit.callS X22 hx (y := (⟨"com/example/enrout/enrout/broker/cli/Option", "operand", "(Ljava/lang/String;Ljava/lang/String;)Lcom/example/enrout/enrout/broker/cli/Option;"⟩ : MethodName)) hown8 (mvT hZ8 (hw _ (List.mem_of_getElem? (i := 50) rfl))) (mvT hZ8 (hw _ (List.mem_of_getElem? (i := 51) rfl))) (mvT hZ8 (hw _ (List.mem_of_getElem? (i := 14) rfl))) (mvT hZ8 (hw _ (List.mem_of_getElem? (i := 52) rfl))) (by decide) (backOf (W := 0) (rm7 l Z a0 hw [] b6 b9 T20.heap n0 (Nat.le_trans (Nat.le_trans (Nat.le_trans (Nat.le_trans (Nat.le_trans Z0 K5.1) K8.1) E17.1) K18.1) K20.1) ) hZ8 (hw _ (List.mem_of_getElem? (i := 52) rfl)) (hw _ (List.mem_of_getElem? (i := 14) rfl)) (by decide) (by decide)) (g := (mkF m 216 #[.val (.int p1), .val (.int p2), .val (.int p3), .val (.int p4), .val (.int (0 : Int32)), .val (.int z4), .val (.ref b6), .val (.ref b6), .val (.ref b9), .val .null, .val (.int z12), .val (.int z14), .val (.int z16), .val .null, .val (.ref b17), .val (.int (1 : Int32))] [(.ref b9), (.ref b6)])) rfl (by rw [hml]; rfl) (argsL := [(.ref b6), (.ref b9)]) (rest := []) (lenOf pd0_3 rfl) rfl (by show 2 * 0 + _ ≤ _; exact Nat.le_of_eq rfl) (hb hby at_216) (fun _ _ => ⟨rfl, e22, (by decide : 8 + 1 ≤ _), (by decide : 30 + 7 ≤ _)⟩)
        dsimp only [Pt.U, Pt.locs, Pt.cells, Pt.slots] at X23 l23 y23 z23 st23 hQ23
        subst l23 y23 z23
        obtain ⟨b24, rfl, N23q, K23, G23_0, G23_1⟩ := hQ23
        have N23 := Fr.app N22 N23q
        refine go1 st23 ?_
        show Go p.tables e below T23 (mkF m 219 #[.val (.int p1), .val (.int p2), .val (.int p3), .val (.int p4), .val (.int (0 : Int32)), .val (.int z4), .val (.ref b6), .val (.ref b6), .val (.ref b9), .val .null, .val (.int z12), .val (.int z14), .val (.int z16), .val .null, .val (.ref b17), .val (.int (1 : Int32))] [(.ref b24)]) _
        obtain ⟨cq25, kq25, q25a, q25b, q25c⟩ := isOf hZ8 rfl G23_0
        obtain ⟨_, _, ⟨T25, L25, k25, n25⟩, -, X25, ⟨Lc25, hQ25, l25, y25, z25⟩, st25⟩ := X23.virtualBack hx (y := (⟨"com/example/enrout/enrout/broker/cli/Option", "isFlag", "()Z"⟩ : MethodName)) (z := (⟨"com/example/enrout/enrout/broker/cli/Option", "isFlag", "()Z"⟩ : MethodName)) hown8 (mvT hZ8 (hw _ (List.mem_of_getElem? (i := 40) rfl))) (mvT hZ8 (hw _ (List.mem_of_getElem? (i := 41) rfl))) (notFace_of_selects (args := #[]) (mvT hZ8 (hw _ (List.mem_of_getElem? (i := 43) rfl)))) (mvT hZ8 (hw _ (List.mem_of_getElem? (i := 43) rfl))) (mvT hZ8 (hw _ (List.mem_of_getElem? (i := 42) rfl))) (by decide) (backOf (W := 0) (rmisb l Z a0 hw [] b24 b6 T23.heap n0 (Nat.le_trans (Nat.le_trans (Nat.le_trans (Nat.le_trans (Nat.le_trans (Nat.le_trans Z0 K5.1) K8.1) E17.1) K18.1) K20.1) K23.1) G23_1) hZ8 (hw _ (List.mem_of_getElem? (i := 44) rfl)) (hw _ (List.mem_of_getElem? (i := 14) rfl)) (by decide) (by decide)) q25a q25c (g := (mkF m 219 #[.val (.int p1), .val (.int p2), .val (.int p3), .val (.int p4), .val (.int (0 : Int32)), .val (.int z4), .val (.ref b6), .val (.ref b6), .val (.ref b9), .val .null, .val (.int z12), .val (.int z14), .val (.int z16), .val .null, .val (.ref b17), .val (.int (1 : Int32))] [(.ref b24)])) rfl (by rw [hml]; rfl) (Steps.refl _) (argsL := []) (rest := []) (lenOf pd0_2 rfl) rfl (by show 2 * 0 + _ ≤ _; exact Nat.le_of_eq rfl) (hb hby at_219) (fun _ _ => ⟨rfl, rfl, (by decide : 9 + 0 ≤ _), (by decide : 37 + 0 ≤ _)⟩)
        dsimp only [Pt.U, Pt.locs, Pt.cells, Pt.slots] at X25 l25 y25 z25 st25 hQ25
        subst l25 y25 z25
        obtain ⟨rfl, N25q, e25⟩ := hQ25
        have N25 := Fr.app N23 N25q
        refine goT st25 ?_
        show Go p.tables e below T25 (mkF m 222 #[.val (.int p1), .val (.int p2), .val (.int p3), .val (.int p4), .val (.int (0 : Int32)), .val (.int z4), .val (.ref b6), .val (.ref b6), .val (.ref b9), .val .null, .val (.int z12), .val (.int z14), .val (.int z16), .val .null, .val (.ref b17), .val (.int (1 : Int32))] [(.int (0 : Int32))]) _
        refine go1 (fun _ => XS.ifNo X25.here hx rfl (hb hby at_222) rfl ((if0 _ _).trans (teq (by decide : (0 : Int32) = (0 : Int32))).2)) ?_
        show Go p.tables e below T25 (mkF m 225 #[.val (.int p1), .val (.int p2), .val (.int p3), .val (.int p4), .val (.int (0 : Int32)), .val (.int z4), .val (.ref b6), .val (.ref b6), .val (.ref b9), .val .null, .val (.int z12), .val (.int z14), .val (.int z16), .val .null, .val (.ref b17), .val (.int (1 : Int32))] []) _
        refine go1 (fun _ => XS.iconst X25.here hx rfl (hb hby at_225)) ?_
        show Go p.tables e below T25 (mkF m 226 #[.val (.int p1), .val (.int p2), .val (.int p3), .val (.int p4), .val (.int (0 : Int32)), .val (.int z4), .val (.ref b6), .val (.ref b6), .val (.ref b9), .val .null, .val (.int z12), .val (.int z14), .val (.int z16), .val .null, .val (.ref b17), .val (.int (1 : Int32))] [(.int (1 : Int32))]) _
        refine go1 (fun _ => XS.goto X25.here hx rfl (pc0 := 226) (pc' := 230) rfl (hb hby at_226) (by decide) (by decide)) ?_
        show Go p.tables e below T25 (mkF m 230 #[.val (.int p1), .val (.int p2), .val (.int p3), .val (.int p4), .val (.int (0 : Int32)), .val (.int z4), .val (.ref b6), .val (.ref b6), .val (.ref b9), .val .null, .val (.int z12), .val (.int z14), .val (.int z16), .val .null, .val (.ref b17), .val (.int (1 : Int32))] [(.int (1 : Int32))]) _
        refine go1 (fun _ => XS.istore X25.here hx rfl (hb hby at_230) rfl (l' := #[.val (.int p1), .val (.int p2), .val (.int p3), .val (.int p4), .val (.int (0 : Int32)), .val (.int z4), .val (.ref b6), .val (.ref b6), .val (.ref b9), .val .null, .val (.int z12), .val (.int z14), .val (.int z16), .val .null, .val (.ref b17), .val (.int (1 : Int32))]) rfl) ?_
        show Go p.tables e below T25 (mkF m 232 #[.val (.int p1), .val (.int p2), .val (.int p3), .val (.int p4), .val (.int (0 : Int32)), .val (.int z4), .val (.ref b6), .val (.ref b6), .val (.ref b9), .val .null, .val (.int z12), .val (.int z14), .val (.int z16), .val .null, .val (.ref b17), .val (.int (1 : Int32))] []) _
        refine go1 (fun _ => XS.iload X25.here hx rfl (hb hby at_232) rfl) ?_
        show Go p.tables e below T25 (mkF m 234 #[.val (.int p1), .val (.int p2), .val (.int p3), .val (.int p4), .val (.int (0 : Int32)), .val (.int z4), .val (.ref b6), .val (.ref b6), .val (.ref b9), .val .null, .val (.int z12), .val (.int z14), .val (.int z16), .val .null, .val (.ref b17), .val (.int (1 : Int32))] [(.int (1 : Int32))]) _
        refine go1 (fun _ => XS.ifNo X25.here hx rfl (hb hby at_234) rfl ((if0 _ _).trans (feq (by decide : ¬ ((1 : Int32) = (0 : Int32)))).1)) ?_
        show Go p.tables e below T25 (mkF m 237 #[.val (.int p1), .val (.int p2), .val (.int p3), .val (.int p4), .val (.int (0 : Int32)), .val (.int z4), .val (.ref b6), .val (.ref b6), .val (.ref b9), .val .null, .val (.int z12), .val (.int z14), .val (.int z16), .val .null, .val (.ref b17), .val (.int (1 : Int32))] []) _
        refine go1 (fun _ => XS.aload X25.here hx rfl (hb hby at_237) rfl rfl) ?_
        show Go p.tables e below T25 (mkF m 239 #[.val (.int p1), .val (.int p2), .val (.int p3), .val (.int p4), .val (.int (0 : Int32)), .val (.int z4), .val (.ref b6), .val (.ref b6), .val (.ref b9), .val .null, .val (.int z12), .val (.int z14), .val (.int z16), .val .null, .val (.ref b17), .val (.int (1 : Int32))] [(.ref b6)]) _
        refine go1 (fun _ => XS.aload X25.here hx rfl (hb hby at_239) rfl rfl) ?_
        show Go p.tables e below T25 (mkF m 241 #[.val (.int p1), .val (.int p2), .val (.int p3), .val (.int p4), .val (.int (0 : Int32)), .val (.int z4), .val (.ref b6), .val (.ref b6), .val (.ref b9), .val .null, .val (.int z12), .val (.int z14), .val (.int z16), .val .null, .val (.ref b17), .val (.int (1 : Int32))] [(.ref b6), (.ref b6)]) _
        refine go1 (fun _ => XS.aload X25.here hx rfl (hb hby at_241) rfl rfl) ?_
        show Go p.tables e below T25 (mkF m 243 #[.val (.int p1), .val (.int p2), .val (.int p3), .val (.int p4), .val (.int (0 : Int32)), .val (.int z4), .val (.ref b6), .val (.ref b6), .val (.ref b9), .val .null, .val (.int z12), .val (.int z14), .val (.int z16), .val .null, .val (.ref b17), .val (.int (1 : Int32))] [(.ref b9), (.ref b6), (.ref b6)]) _
        obtain ⟨_, _, ⟨T26, L26, k26, n26⟩, -, X26, ⟨Lc26, hQ26, l26, y26, z26⟩, st26⟩ := Jvm.LawKit.callS X25 hx (y := (⟨"com/example/enrout/enrout/broker/cli/Option", "optional", "(Ljava/lang/String;Ljava/lang/String;Ljava/lang/String;)Lcom/example/enrout/enrout/broker/cli/Option;"⟩ : MethodName)) hown8 (mvT hZ8 (hw _ (List.mem_of_getElem? (i := 53) rfl))) (mvT hZ8 (hw _ (List.mem_of_getElem? (i := 54) rfl))) (mvT hZ8 (hw _ (List.mem_of_getElem? (i := 14) rfl))) (mvT hZ8 (hw _ (List.mem_of_getElem? (i := 55) rfl))) (by decide) (backOf (W := 0) (rm8 l Z a0 hw [] b6 b6 b9 T23.heap n0 (Nat.le_trans (Nat.le_trans (Nat.le_trans (Nat.le_trans (Nat.le_trans (Nat.le_trans Z0 K5.1) K8.1) E17.1) K18.1) K20.1) K23.1) ) hZ8 (hw _ (List.mem_of_getElem? (i := 55) rfl)) (hw _ (List.mem_of_getElem? (i := 14) rfl)) (by decide) (by decide)) (g := (mkF m 243 #[.val (.int p1), .val (.int p2), .val (.int p3), .val (.int p4), .val (.int (0 : Int32)), .val (.int z4), .val (.ref b6), .val (.ref b6), .val (.ref b9), .val .null, .val (.int z12), .val (.int z14), .val (.int z16), .val .null, .val (.ref b17), .val (.int (1 : Int32))] [(.ref b9), (.ref b6), (.ref b6)])) rfl (by rw [hml]; rfl) (argsL := [(.ref b6), (.ref b6), (.ref b9)]) (rest := []) (lenOf pd0_4 rfl) rfl (by show 2 * 0 + _ ≤ _; exact Nat.le_of_eq rfl) (hb hby at_243) (fun _ _ => ⟨rfl, e25, (by decide : 9 + 1 ≤ _), (by decide : 37 + 7 ≤ _)⟩)
        dsimp only [Pt.U, Pt.locs, Pt.cells, Pt.slots] at X26 l26 y26 z26 st26 hQ26
        subst l26 y26 z26
        obtain ⟨b27, rfl, N26q, K26, G26_0, G26_1⟩ := hQ26
        have N26 := Fr.app N25 N26q
        refine go1 st26 ?_
        show Go p.tables e below T26 (mkF m 246 #[.val (.int p1), .val (.int p2), .val (.int p3), .val (.int p4), .val (.int (0 : Int32)), .val (.int z4), .val (.ref b6), .val (.ref b6), .val (.ref b9), .val .null, .val (.int z12), .val (.int z14), .val (.int z16), .val .null, .val (.ref b17), .val (.int (1 : Int32))] [(.ref b27)]) _
        obtain ⟨cq28, kq28, q28a, q28b, q28c⟩ := isOf hZ8 rfl G26_0
        obtain ⟨_, _, ⟨T28, L28, k28, n28⟩, -, X28, ⟨Lc28, hQ28, l28, y28, z28⟩, st28⟩ := X26.virtualBack hx (y := (⟨"com/example/enrout/enrout/broker/cli/Option", "isFlag", "()Z"⟩ : MethodName)) (z := (⟨"com/example/enrout/enrout/broker/cli/Option", "isFlag", "()Z"⟩ : MethodName)) hown8 (mvT hZ8 (hw _ (List.mem_of_getElem? (i := 40) rfl))) (mvT hZ8 (hw _ (List.mem_of_getElem? (i := 41) rfl))) (notFace_of_selects (args := #[]) (mvT hZ8 (hw _ (List.mem_of_getElem? (i := 43) rfl)))) (mvT hZ8 (hw _ (List.mem_of_getElem? (i := 43) rfl))) (mvT hZ8 (hw _ (List.mem_of_getElem? (i := 42) rfl))) (by decide) (backOf (W := 0) (rmisb l Z a0 hw [] b27 b6 T26.heap n0 (Nat.le_trans (Nat.le_trans (Nat.le_trans (Nat.le_trans (Nat.le_trans (Nat.le_trans (Nat.le_trans Z0 K5.1) K8.1) E17.1) K18.1) K20.1) K23.1) K26.1) G26_1) hZ8 (hw _ (List.mem_of_getElem? (i := 44) rfl)) (hw _ (List.mem_of_getElem? (i := 14) rfl)) (by decide) (by decide)) q28a q28c (g := (mkF m 246 #[.val (.int p1), .val (.int p2), .val (.int p3), .val (.int p4), .val (.int (0 : Int32)), .val (.int z4), .val (.ref b6), .val (.ref b6), .val (.ref b9), .val .null, .val (.int z12), .val (.int z14), .val (.int z16), .val .null, .val (.ref b17), .val (.int (1 : Int32))] [(.ref b27)])) rfl (by rw [hml]; rfl) (Steps.refl _) (argsL := []) (rest := []) (lenOf pd0_2 rfl) rfl (by show 2 * 0 + _ ≤ _; exact Nat.le_of_eq rfl) (hb hby at_246) (fun _ _ => ⟨rfl, rfl, (by decide : 10 + 0 ≤ _), (by decide : 44 + 0 ≤ _)⟩)
        dsimp only [Pt.U, Pt.locs, Pt.cells, Pt.slots] at X28 l28 y28 z28 st28 hQ28
        subst l28 y28 z28
        obtain ⟨rfl, N28q, e28⟩ := hQ28
        have N28 := Fr.app N26 N28q
        refine goT st28 ?_
        show Go p.tables e below T28 (mkF m 249 #[.val (.int p1), .val (.int p2), .val (.int p3), .val (.int p4), .val (.int (0 : Int32)), .val (.int z4), .val (.ref b6), .val (.ref b6), .val (.ref b9), .val .null, .val (.int z12), .val (.int z14), .val (.int z16), .val .null, .val (.ref b17), .val (.int (1 : Int32))] [(.int (0 : Int32))]) _
        refine go1 (fun _ => XS.ifNo X28.here hx rfl (hb hby at_249) rfl ((if0 _ _).trans (teq (by decide : (0 : Int32) = (0 : Int32))).2)) ?_
        show Go p.tables e below T28 (mkF m 252 #[.val (.int p1), .val (.int p2), .val (.int p3), .val (.int p4), .val (.int (0 : Int32)), .val (.int z4), .val (.ref b6), .val (.ref b6), .val (.ref b9), .val .null, .val (.int z12), .val (.int z14), .val (.int z16), .val .null, .val (.ref b17), .val (.int (1 : Int32))] []) _
        refine go1 (fun _ => XS.iconst X28.here hx rfl (hb hby at_252)) ?_
        show Go p.tables e below T28 (mkF m 253 #[.val (.int p1), .val (.int p2), .val (.int p3), .val (.int p4), .val (.int (0 : Int32)), .val (.int z4), .val (.ref b6), .val (.ref b6), .val (.ref b9), .val .null, .val (.int z12), .val (.int z14), .val (.int z16), .val .null, .val (.ref b17), .val (.int (1 : Int32))] [(.int (1 : Int32))]) _
        refine go1 (fun _ => XS.goto X28.here hx rfl (pc0 := 253) (pc' := 257) rfl (hb hby at_253) (by decide) (by decide)) ?_
        show Go p.tables e below T28 (mkF m 257 #[.val (.int p1), .val (.int p2), .val (.int p3), .val (.int p4), .val (.int (0 : Int32)), .val (.int z4), .val (.ref b6), .val (.ref b6), .val (.ref b9), .val .null, .val (.int z12), .val (.int z14), .val (.int z16), .val .null, .val (.ref b17), .val (.int (1 : Int32))] [(.int (1 : Int32))]) _
        refine go1 (fun _ => XS.istore X28.here hx rfl (hb hby at_257) rfl (l' := #[.val (.int p1), .val (.int p2), .val (.int p3), .val (.int p4), .val (.int (0 : Int32)), .val (.int z4), .val (.ref b6), .val (.ref b6), .val (.ref b9), .val .null, .val (.int z12), .val (.int z14), .val (.int z16), .val .null, .val (.ref b17), .val (.int (1 : Int32))]) rfl) ?_
        show Go p.tables e below T28 (mkF m 259 #[.val (.int p1), .val (.int p2), .val (.int p3), .val (.int p4), .val (.int (0 : Int32)), .val (.int z4), .val (.ref b6), .val (.ref b6), .val (.ref b9), .val .null, .val (.int z12), .val (.int z14), .val (.int z16), .val .null, .val (.ref b17), .val (.int (1 : Int32))] []) _
        refine go1 (fun _ => XS.iload X28.here hx rfl (hb hby at_259) rfl) ?_
        show Go p.tables e below T28 (mkF m 261 #[.val (.int p1), .val (.int p2), .val (.int p3), .val (.int p4), .val (.int (0 : Int32)), .val (.int z4), .val (.ref b6), .val (.ref b6), .val (.ref b9), .val .null, .val (.int z12), .val (.int z14), .val (.int z16), .val .null, .val (.ref b17), .val (.int (1 : Int32))] [(.int (1 : Int32))]) _
        refine goRW (s := s) (vm₁ := T8.vm) X28 hS8 (by rw [e28]; exact (Nat.le_trans (Nat.le_trans (Nat.le_trans (Nat.le_trans (Nat.le_trans (Nat.le_refl _) E17.1) K18.1) K20.1) K23.1) K26.1)) (BodyLoose.notSynchronized Bd) (v := (some (.int (1 : Int32)))) (fun h => by rw [Bd.returns] at h; cases h) (Q0 Z p1 p2 p3 p4 a_COMPACT_STRINGS h0 n0) (fun fs hr => retN X28 hx (t := .boolean) Bd.returns (by simp) (hb hby at_261) hr) (by decide) (by decide) ?_
        show Q0 Z p1 p2 p3 p4 a_COMPACT_STRINGS h0 n0 _ T28.heap _
        rw [e28]
        exact ⟨rfl, N28⟩
      · skip
        refine go1 (fun _ => XS.ifNo X8.here hx rfl (hb hby at_71) rfl ((if0 _ _).trans (feq hc10).1)) ?_
        show Go p.tables e below T8 (mkF m 74 #[.val (.int p1), .val (.int p2), .val (.int p3), .val (.int p4), .val (.int (0 : Int32)), .val (.int z4), .val (.ref b6), .val (.ref b6), .val (.ref b9), .unset, .unset, .unset, .unset, .unset, .unset, .unset] []) _
        refine go1 (fun _ => XS.aload X8.here hx rfl (hb hby at_74) rfl rfl) ?_
        show Go p.tables e below T8 (mkF m 76 #[.val (.int p1), .val (.int p2), .val (.int p3), .val (.int p4), .val (.int (0 : Int32)), .val (.int z4), .val (.ref b6), .val (.ref b6), .val (.ref b9), .unset, .unset, .unset, .unset, .unset, .unset, .unset] [(.ref b6)]) _
        refine go1 (fun _ => XS.goto X8.here hx rfl (pc0 := 76) (pc' := 80) rfl (hb hby at_76) (by decide) (by decide)) ?_
        show Go p.tables e below T8 (mkF m 80 #[.val (.int p1), .val (.int p2), .val (.int p3), .val (.int p4), .val (.int (0 : Int32)), .val (.int z4), .val (.ref b6), .val (.ref b6), .val (.ref b9), .unset, .unset, .unset, .unset, .unset, .unset, .unset] [(.ref b6)]) _
        refine go1 (fun _ => XS.astore X8.here hx rfl (hb hby at_80) rfl rfl (l' := #[.val (.int p1), .val (.int p2), .val (.int p3), .val (.int p4), .val (.int (0 : Int32)), .val (.int z4), .val (.ref b6), .val (.ref b6), .val (.ref b9), .val (.ref b6), .unset, .unset, .unset, .unset, .unset, .unset]) rfl) ?_
        show Go p.tables e below T8 (mkF m 82 #[.val (.int p1), .val (.int p2), .val (.int p3), .val (.int p4), .val (.int (0 : Int32)), .val (.int z4), .val (.ref b6), .val (.ref b6), .val (.ref b9), .val (.ref b6), .unset, .unset, .unset, .unset, .unset, .unset] []) _
        refine go1 (fun _ => XS.iloadN X8.here hx rfl (hb hby at_82) rfl) ?_
        show Go p.tables e below T8 (mkF m 83 #[.val (.int p1), .val (.int p2), .val (.int p3), .val (.int p4), .val (.int (0 : Int32)), .val (.int z4), .val (.ref b6), .val (.ref b6), .val (.ref b9), .val (.ref b6), .unset, .unset, .unset, .unset, .unset, .unset] [(.int p4)]) _
        refine go1 (fun _ => XS.iconst X8.here hx rfl (hb hby at_83)) ?_
        show Go p.tables e below T8 (mkF m 84 #[.val (.int p1), .val (.int p2), .val (.int p3), .val (.int p4), .val (.int (0 : Int32)), .val (.int z4), .val (.ref b6), .val (.ref b6), .val (.ref b9), .val (.ref b6), .unset, .unset, .unset, .unset, .unset, .unset] [(.int (1 : Int32)), (.int p4)]) _
        refine go1 (fun _ => XS.iand X8.here hx rfl (hb hby at_84) rfl) ?_
        show Go p.tables e below T8 (mkF m 85 #[.val (.int p1), .val (.int p2), .val (.int p3), .val (.int p4), .val (.int (0 : Int32)), .val (.int z4), .val (.ref b6), .val (.ref b6), .val (.ref b9), .val (.ref b6), .unset, .unset, .unset, .unset, .unset, .unset] [(.int (p4 &&& (1 : Int32)))]) _
        refine go1 (T' := T8) (g' := (mkF m 93 #[.val (.int p1), .val (.int p2), .val (.int p3), .val (.int p4), .val (.int (0 : Int32)), .val (.int z4), .val (.ref b6), .val (.ref b6), .val (.ref b9), .val (.ref b6), .unset, .unset, .unset, .unset, .unset, .unset] [(.int (if (p4 &&& (1 : Int32)) = (0 : Int32) then (0 : Int32) else (1 : Int32)))])) (fun t k => ?_) ?_
        · by_cases hd29 : (p4 &&& (1 : Int32)) = (0 : Int32)
          · skip
            rw [(if_pos hd29 : (if (p4 &&& (1 : Int32)) = (0 : Int32) then (0 : Int32) else (1 : Int32)) = (0 : Int32))] at k
            show Steps p.tables e below (T8.setTop (mkF m 85 #[.val (.int p1), .val (.int p2), .val (.int p3), .val (.int p4), .val (.int (0 : Int32)), .val (.int z4), .val (.ref b6), .val (.ref b6), .val (.ref b9), .val (.ref b6), .unset, .unset, .unset, .unset, .unset, .unset] [(.int (p4 &&& (1 : Int32)))])) _
            refine XS.ifYes X8.here hx rfl (pc0 := 85) (pc' := 92) rfl (hb hby at_85) rfl ((if0 _ _).trans (teq hd29).1) (by decide) (by decide) ?_
            show Steps p.tables e below (T8.setTop (mkF m 92 #[.val (.int p1), .val (.int p2), .val (.int p3), .val (.int p4), .val (.int (0 : Int32)), .val (.int z4), .val (.ref b6), .val (.ref b6), .val (.ref b9), .val (.ref b6), .unset, .unset, .unset, .unset, .unset, .unset] [])) _
            refine XS.iconst X8.here hx rfl (hb hby at_92) ?_
            show Steps p.tables e below (T8.setTop (mkF m 93 #[.val (.int p1), .val (.int p2), .val (.int p3), .val (.int p4), .val (.int (0 : Int32)), .val (.int z4), .val (.ref b6), .val (.ref b6), .val (.ref b9), .val (.ref b6), .unset, .unset, .unset, .unset, .unset, .unset] [(.int (0 : Int32))])) _
            exact k
          · skip
            rw [(if_neg hd29 : (if (p4 &&& (1 : Int32)) = (0 : Int32) then (0 : Int32) else (1 : Int32)) = (1 : Int32))] at k
            show Steps p.tables e below (T8.setTop (mkF m 85 #[.val (.int p1), .val (.int p2), .val (.int p3), .val (.int p4), .val (.int (0 : Int32)), .val (.int z4), .val (.ref b6), .val (.ref b6), .val (.ref b9), .val (.ref b6), .unset, .unset, .unset, .unset, .unset, .unset] [(.int (p4 &&& (1 : Int32)))])) _
            refine XS.ifNo X8.here hx rfl (hb hby at_85) rfl ((if0 _ _).trans (feq hd29).1) ?_
            show Steps p.tables e below (T8.setTop (mkF m 88 #[.val (.int p1), .val (.int p2), .val (.int p3), .val (.int p4), .val (.int (0 : Int32)), .val (.int z4), .val (.ref b6), .val (.ref b6), .val (.ref b9), .val (.ref b6), .unset, .unset, .unset, .unset, .unset, .unset] [])) _
            refine XS.iconst X8.here hx rfl (hb hby at_88) ?_
            show Steps p.tables e below (T8.setTop (mkF m 89 #[.val (.int p1), .val (.int p2), .val (.int p3), .val (.int p4), .val (.int (0 : Int32)), .val (.int z4), .val (.ref b6), .val (.ref b6), .val (.ref b9), .val (.ref b6), .unset, .unset, .unset, .unset, .unset, .unset] [(.int (1 : Int32))])) _
            refine XS.goto X8.here hx rfl (pc0 := 89) (pc' := 93) rfl (hb hby at_89) (by decide) (by decide) ?_
            show Steps p.tables e below (T8.setTop (mkF m 93 #[.val (.int p1), .val (.int p2), .val (.int p3), .val (.int p4), .val (.int (0 : Int32)), .val (.int z4), .val (.ref b6), .val (.ref b6), .val (.ref b9), .val (.ref b6), .unset, .unset, .unset, .unset, .unset, .unset] [(.int (1 : Int32))])) _
            exact k
        show Go p.tables e below T8 (mkF m 93 #[.val (.int p1), .val (.int p2), .val (.int p3), .val (.int p4), .val (.int (0 : Int32)), .val (.int z4), .val (.ref b6), .val (.ref b6), .val (.ref b9), .val (.ref b6), .unset, .unset, .unset, .unset, .unset, .unset] [(.int (if (p4 &&& (1 : Int32)) = (0 : Int32) then (0 : Int32) else (1 : Int32)))]) _
        obtain ⟨z30, hz30⟩ : ∃ z : Int32, z = (if (p4 &&& (1 : Int32)) = (0 : Int32) then (0 : Int32) else (1 : Int32)) := ⟨_, rfl⟩
        rw [← hz30]
        show Go p.tables e below T8 (mkF m 93 #[.val (.int p1), .val (.int p2), .val (.int p3), .val (.int p4), .val (.int (0 : Int32)), .val (.int z4), .val (.ref b6), .val (.ref b6), .val (.ref b9), .val (.ref b6), .unset, .unset, .unset, .unset, .unset, .unset] [(.int z30)]) _
        refine go1 (fun _ => XS.istore X8.here hx rfl (hb hby at_93) rfl (l' := #[.val (.int p1), .val (.int p2), .val (.int p3), .val (.int p4), .val (.int (0 : Int32)), .val (.int z4), .val (.ref b6), .val (.ref b6), .val (.ref b9), .val (.ref b6), .val (.int z30), .unset, .unset, .unset, .unset, .unset]) rfl) ?_
        show Go p.tables e below T8 (mkF m 95 #[.val (.int p1), .val (.int p2), .val (.int p3), .val (.int p4), .val (.int (0 : Int32)), .val (.int z4), .val (.ref b6), .val (.ref b6), .val (.ref b9), .val (.ref b6), .val (.int z30), .unset, .unset, .unset, .unset, .unset] []) _
        refine go1 (fun _ => XS.iloadN X8.here hx rfl (hb hby at_95) rfl) ?_
        show Go p.tables e below T8 (mkF m 96 #[.val (.int p1), .val (.int p2), .val (.int p3), .val (.int p4), .val (.int (0 : Int32)), .val (.int z4), .val (.ref b6), .val (.ref b6), .val (.ref b9), .val (.ref b6), .val (.int z30), .unset, .unset, .unset, .unset, .unset] [(.int p4)]) _
        refine go1 (fun _ => XS.iconst X8.here hx rfl (hb hby at_96)) ?_
        show Go p.tables e below T8 (mkF m 97 #[.val (.int p1), .val (.int p2), .val (.int p3), .val (.int p4), .val (.int (0 : Int32)), .val (.int z4), .val (.ref b6), .val (.ref b6), .val (.ref b9), .val (.ref b6), .val (.int z30), .unset, .unset, .unset, .unset, .unset] [(.int (2 : Int32)), (.int p4)]) _
        refine go1 (fun _ => XS.iand X8.here hx rfl (hb hby at_97) rfl) ?_
        show Go p.tables e below T8 (mkF m 98 #[.val (.int p1), .val (.int p2), .val (.int p3), .val (.int p4), .val (.int (0 : Int32)), .val (.int z4), .val (.ref b6), .val (.ref b6), .val (.ref b9), .val (.ref b6), .val (.int z30), .unset, .unset, .unset, .unset, .unset] [(.int (p4 &&& (2 : Int32)))]) _
        refine go1 (T' := T8) (g' := (mkF m 106 #[.val (.int p1), .val (.int p2), .val (.int p3), .val (.int p4), .val (.int (0 : Int32)), .val (.int z4), .val (.ref b6), .val (.ref b6), .val (.ref b9), .val (.ref b6), .val (.int z30), .unset, .unset, .unset, .unset, .unset] [(.int (if (p4 &&& (2 : Int32)) = (0 : Int32) then (0 : Int32) else (1 : Int32)))])) (fun t k => ?_) ?_
        · by_cases hd31 : (p4 &&& (2 : Int32)) = (0 : Int32)
          · skip
            rw [(if_pos hd31 : (if (p4 &&& (2 : Int32)) = (0 : Int32) then (0 : Int32) else (1 : Int32)) = (0 : Int32))] at k
            show Steps p.tables e below (T8.setTop (mkF m 98 #[.val (.int p1), .val (.int p2), .val (.int p3), .val (.int p4), .val (.int (0 : Int32)), .val (.int z4), .val (.ref b6), .val (.ref b6), .val (.ref b9), .val (.ref b6), .val (.int z30), .unset, .unset, .unset, .unset, .unset] [(.int (p4 &&& (2 : Int32)))])) _
            refine XS.ifYes X8.here hx rfl (pc0 := 98) (pc' := 105) rfl (hb hby at_98) rfl ((if0 _ _).trans (teq hd31).1) (by decide) (by decide) ?_
            show Steps p.tables e below (T8.setTop (mkF m 105 #[.val (.int p1), .val (.int p2), .val (.int p3), .val (.int p4), .val (.int (0 : Int32)), .val (.int z4), .val (.ref b6), .val (.ref b6), .val (.ref b9), .val (.ref b6), .val (.int z30), .unset, .unset, .unset, .unset, .unset] [])) _
            refine XS.iconst X8.here hx rfl (hb hby at_105) ?_
            show Steps p.tables e below (T8.setTop (mkF m 106 #[.val (.int p1), .val (.int p2), .val (.int p3), .val (.int p4), .val (.int (0 : Int32)), .val (.int z4), .val (.ref b6), .val (.ref b6), .val (.ref b9), .val (.ref b6), .val (.int z30), .unset, .unset, .unset, .unset, .unset] [(.int (0 : Int32))])) _
            exact k
          · skip
            rw [(if_neg hd31 : (if (p4 &&& (2 : Int32)) = (0 : Int32) then (0 : Int32) else (1 : Int32)) = (1 : Int32))] at k
            show Steps p.tables e below (T8.setTop (mkF m 98 #[.val (.int p1), .val (.int p2), .val (.int p3), .val (.int p4), .val (.int (0 : Int32)), .val (.int z4), .val (.ref b6), .val (.ref b6), .val (.ref b9), .val (.ref b6), .val (.int z30), .unset, .unset, .unset, .unset, .unset] [(.int (p4 &&& (2 : Int32)))])) _
            refine XS.ifNo X8.here hx rfl (hb hby at_98) rfl ((if0 _ _).trans (feq hd31).1) ?_
            show Steps p.tables e below (T8.setTop (mkF m 101 #[.val (.int p1), .val (.int p2), .val (.int p3), .val (.int p4), .val (.int (0 : Int32)), .val (.int z4), .val (.ref b6), .val (.ref b6), .val (.ref b9), .val (.ref b6), .val (.int z30), .unset, .unset, .unset, .unset, .unset] [])) _
            refine XS.iconst X8.here hx rfl (hb hby at_101) ?_
            show Steps p.tables e below (T8.setTop (mkF m 102 #[.val (.int p1), .val (.int p2), .val (.int p3), .val (.int p4), .val (.int (0 : Int32)), .val (.int z4), .val (.ref b6), .val (.ref b6), .val (.ref b9), .val (.ref b6), .val (.int z30), .unset, .unset, .unset, .unset, .unset] [(.int (1 : Int32))])) _
            refine XS.goto X8.here hx rfl (pc0 := 102) (pc' := 106) rfl (hb hby at_102) (by decide) (by decide) ?_
            show Steps p.tables e below (T8.setTop (mkF m 106 #[.val (.int p1), .val (.int p2), .val (.int p3), .val (.int p4), .val (.int (0 : Int32)), .val (.int z4), .val (.ref b6), .val (.ref b6), .val (.ref b9), .val (.ref b6), .val (.int z30), .unset, .unset, .unset, .unset, .unset] [(.int (1 : Int32))])) _
            exact k
        show Go p.tables e below T8 (mkF m 106 #[.val (.int p1), .val (.int p2), .val (.int p3), .val (.int p4), .val (.int (0 : Int32)), .val (.int z4), .val (.ref b6), .val (.ref b6), .val (.ref b9), .val (.ref b6), .val (.int z30), .unset, .unset, .unset, .unset, .unset] [(.int (if (p4 &&& (2 : Int32)) = (0 : Int32) then (0 : Int32) else (1 : Int32)))]) _
        obtain ⟨z32, hz32⟩ : ∃ z : Int32, z = (if (p4 &&& (2 : Int32)) = (0 : Int32) then (0 : Int32) else (1 : Int32)) := ⟨_, rfl⟩
        rw [← hz32]
        show Go p.tables e below T8 (mkF m 106 #[.val (.int p1), .val (.int p2), .val (.int p3), .val (.int p4), .val (.int (0 : Int32)), .val (.int z4), .val (.ref b6), .val (.ref b6), .val (.ref b9), .val (.ref b6), .val (.int z30), .unset, .unset, .unset, .unset, .unset] [(.int z32)]) _
        refine go1 (fun _ => XS.istore X8.here hx rfl (hb hby at_106) rfl (l' := #[.val (.int p1), .val (.int p2), .val (.int p3), .val (.int p4), .val (.int (0 : Int32)), .val (.int z4), .val (.ref b6), .val (.ref b6), .val (.ref b9), .val (.ref b6), .val (.int z30), .val (.int z32), .unset, .unset, .unset, .unset]) rfl) ?_
        show Go p.tables e below T8 (mkF m 108 #[.val (.int p1), .val (.int p2), .val (.int p3), .val (.int p4), .val (.int (0 : Int32)), .val (.int z4), .val (.ref b6), .val (.ref b6), .val (.ref b9), .val (.ref b6), .val (.int z30), .val (.int z32), .unset, .unset, .unset, .unset] []) _
        refine go1 (fun _ => XS.iloadN X8.here hx rfl (hb hby at_108) rfl) ?_
        show Go p.tables e below T8 (mkF m 109 #[.val (.int p1), .val (.int p2), .val (.int p3), .val (.int p4), .val (.int (0 : Int32)), .val (.int z4), .val (.ref b6), .val (.ref b6), .val (.ref b9), .val (.ref b6), .val (.int z30), .val (.int z32), .unset, .unset, .unset, .unset] [(.int p4)]) _
        refine go1 (fun _ => XS.iconst X8.here hx rfl (hb hby at_109)) ?_
        show Go p.tables e below T8 (mkF m 110 #[.val (.int p1), .val (.int p2), .val (.int p3), .val (.int p4), .val (.int (0 : Int32)), .val (.int z4), .val (.ref b6), .val (.ref b6), .val (.ref b9), .val (.ref b6), .val (.int z30), .val (.int z32), .unset, .unset, .unset, .unset] [(.int (4 : Int32)), (.int p4)]) _
        refine go1 (fun _ => XS.iand X8.here hx rfl (hb hby at_110) rfl) ?_
        show Go p.tables e below T8 (mkF m 111 #[.val (.int p1), .val (.int p2), .val (.int p3), .val (.int p4), .val (.int (0 : Int32)), .val (.int z4), .val (.ref b6), .val (.ref b6), .val (.ref b9), .val (.ref b6), .val (.int z30), .val (.int z32), .unset, .unset, .unset, .unset] [(.int (p4 &&& (4 : Int32)))]) _
        refine go1 (T' := T8) (g' := (mkF m 119 #[.val (.int p1), .val (.int p2), .val (.int p3), .val (.int p4), .val (.int (0 : Int32)), .val (.int z4), .val (.ref b6), .val (.ref b6), .val (.ref b9), .val (.ref b6), .val (.int z30), .val (.int z32), .unset, .unset, .unset, .unset] [(.int (if (p4 &&& (4 : Int32)) = (0 : Int32) then (0 : Int32) else (1 : Int32)))])) (fun t k => ?_) ?_
        · by_cases hd33 : (p4 &&& (4 : Int32)) = (0 : Int32)
          · skip
            rw [(if_pos hd33 : (if (p4 &&& (4 : Int32)) = (0 : Int32) then (0 : Int32) else (1 : Int32)) = (0 : Int32))] at k
            show Steps p.tables e below (T8.setTop (mkF m 111 #[.val (.int p1), .val (.int p2), .val (.int p3), .val (.int p4), .val (.int (0 : Int32)), .val (.int z4), .val (.ref b6), .val (.ref b6), .val (.ref b9), .val (.ref b6), .val (.int z30), .val (.int z32), .unset, .unset, .unset, .unset] [(.int (p4 &&& (4 : Int32)))])) _
            refine XS.ifYes X8.here hx rfl (pc0 := 111) (pc' := 118) rfl (hb hby at_111) rfl ((if0 _ _).trans (teq hd33).1) (by decide) (by decide) ?_
            show Steps p.tables e below (T8.setTop (mkF m 118 #[.val (.int p1), .val (.int p2), .val (.int p3), .val (.int p4), .val (.int (0 : Int32)), .val (.int z4), .val (.ref b6), .val (.ref b6), .val (.ref b9), .val (.ref b6), .val (.int z30), .val (.int z32), .unset, .unset, .unset, .unset] [])) _
            refine XS.iconst X8.here hx rfl (hb hby at_118) ?_
            show Steps p.tables e below (T8.setTop (mkF m 119 #[.val (.int p1), .val (.int p2), .val (.int p3), .val (.int p4), .val (.int (0 : Int32)), .val (.int z4), .val (.ref b6), .val (.ref b6), .val (.ref b9), .val (.ref b6), .val (.int z30), .val (.int z32), .unset, .unset, .unset, .unset] [(.int (0 : Int32))])) _
            exact k
          · skip
            rw [(if_neg hd33 : (if (p4 &&& (4 : Int32)) = (0 : Int32) then (0 : Int32) else (1 : Int32)) = (1 : Int32))] at k
            show Steps p.tables e below (T8.setTop (mkF m 111 #[.val (.int p1), .val (.int p2), .val (.int p3), .val (.int p4), .val (.int (0 : Int32)), .val (.int z4), .val (.ref b6), .val (.ref b6), .val (.ref b9), .val (.ref b6), .val (.int z30), .val (.int z32), .unset, .unset, .unset, .unset] [(.int (p4 &&& (4 : Int32)))])) _
            refine XS.ifNo X8.here hx rfl (hb hby at_111) rfl ((if0 _ _).trans (feq hd33).1) ?_
            show Steps p.tables e below (T8.setTop (mkF m 114 #[.val (.int p1), .val (.int p2), .val (.int p3), .val (.int p4), .val (.int (0 : Int32)), .val (.int z4), .val (.ref b6), .val (.ref b6), .val (.ref b9), .val (.ref b6), .val (.int z30), .val (.int z32), .unset, .unset, .unset, .unset] [])) _
            refine XS.iconst X8.here hx rfl (hb hby at_114) ?_
            show Steps p.tables e below (T8.setTop (mkF m 115 #[.val (.int p1), .val (.int p2), .val (.int p3), .val (.int p4), .val (.int (0 : Int32)), .val (.int z4), .val (.ref b6), .val (.ref b6), .val (.ref b9), .val (.ref b6), .val (.int z30), .val (.int z32), .unset, .unset, .unset, .unset] [(.int (1 : Int32))])) _
            refine XS.goto X8.here hx rfl (pc0 := 115) (pc' := 119) rfl (hb hby at_115) (by decide) (by decide) ?_
            show Steps p.tables e below (T8.setTop (mkF m 119 #[.val (.int p1), .val (.int p2), .val (.int p3), .val (.int p4), .val (.int (0 : Int32)), .val (.int z4), .val (.ref b6), .val (.ref b6), .val (.ref b9), .val (.ref b6), .val (.int z30), .val (.int z32), .unset, .unset, .unset, .unset] [(.int (1 : Int32))])) _
            exact k
        show Go p.tables e below T8 (mkF m 119 #[.val (.int p1), .val (.int p2), .val (.int p3), .val (.int p4), .val (.int (0 : Int32)), .val (.int z4), .val (.ref b6), .val (.ref b6), .val (.ref b9), .val (.ref b6), .val (.int z30), .val (.int z32), .unset, .unset, .unset, .unset] [(.int (if (p4 &&& (4 : Int32)) = (0 : Int32) then (0 : Int32) else (1 : Int32)))]) _
        obtain ⟨z34, hz34⟩ : ∃ z : Int32, z = (if (p4 &&& (4 : Int32)) = (0 : Int32) then (0 : Int32) else (1 : Int32)) := ⟨_, rfl⟩
        rw [← hz34]
        show Go p.tables e below T8 (mkF m 119 #[.val (.int p1), .val (.int p2), .val (.int p3), .val (.int p4), .val (.int (0 : Int32)), .val (.int z4), .val (.ref b6), .val (.ref b6), .val (.ref b9), .val (.ref b6), .val (.int z30), .val (.int z32), .unset, .unset, .unset, .unset] [(.int z34)]) _
        refine go1 (fun _ => XS.istore X8.here hx rfl (hb hby at_119) rfl (l' := #[.val (.int p1), .val (.int p2), .val (.int p3), .val (.int p4), .val (.int (0 : Int32)), .val (.int z4), .val (.ref b6), .val (.ref b6), .val (.ref b9), .val (.ref b6), .val (.int z30), .val (.int z32), .val (.int z34), .unset, .unset, .unset]) rfl) ?_
        show Go p.tables e below T8 (mkF m 121 #[.val (.int p1), .val (.int p2), .val (.int p3), .val (.int p4), .val (.int (0 : Int32)), .val (.int z4), .val (.ref b6), .val (.ref b6), .val (.ref b9), .val (.ref b6), .val (.int z30), .val (.int z32), .val (.int z34), .unset, .unset, .unset] []) _
        refine go1 (fun _ => XS.iload X8.here hx rfl (hb hby at_121) rfl) ?_
        show Go p.tables e below T8 (mkF m 123 #[.val (.int p1), .val (.int p2), .val (.int p3), .val (.int p4), .val (.int (0 : Int32)), .val (.int z4), .val (.ref b6), .val (.ref b6), .val (.ref b9), .val (.ref b6), .val (.int z30), .val (.int z32), .val (.int z34), .unset, .unset, .unset] [(.int (0 : Int32))]) _
        refine go1 (fun _ => XS.ifYes X8.here hx rfl (pc0 := 123) (pc' := 131) rfl (hb hby at_123) rfl ((if0 _ _).trans (teq (by decide : (0 : Int32) = (0 : Int32))).1) (by decide) (by decide)) ?_
        show Go p.tables e below T8 (mkF m 131 #[.val (.int p1), .val (.int p2), .val (.int p3), .val (.int p4), .val (.int (0 : Int32)), .val (.int z4), .val (.ref b6), .val (.ref b6), .val (.ref b9), .val (.ref b6), .val (.int z30), .val (.int z32), .val (.int z34), .unset, .unset, .unset] []) _
        refine go1 (fun _ => XS.aconstNull X8.here hx rfl (hb hby at_131)) ?_
        show Go p.tables e below T8 (mkF m 132 #[.val (.int p1), .val (.int p2), .val (.int p3), .val (.int p4), .val (.int (0 : Int32)), .val (.int z4), .val (.ref b6), .val (.ref b6), .val (.ref b9), .val (.ref b6), .val (.int z30), .val (.int z32), .val (.int z34), .unset, .unset, .unset] [.null]) _
        refine go1 (fun _ => XS.astore X8.here hx rfl (hb hby at_132) rfl rfl (l' := #[.val (.int p1), .val (.int p2), .val (.int p3), .val (.int p4), .val (.int (0 : Int32)), .val (.int z4), .val (.ref b6), .val (.ref b6), .val (.ref b9), .val (.ref b6), .val (.int z30), .val (.int z32), .val (.int z34), .val .null, .unset, .unset]) rfl) ?_
        show Go p.tables e below T8 (mkF m 134 #[.val (.int p1), .val (.int p2), .val (.int p3), .val (.int p4), .val (.int (0 : Int32)), .val (.int z4), .val (.ref b6), .val (.ref b6), .val (.ref b9), .val (.ref b6), .val (.int z30), .val (.int z32), .val (.int z34), .val .null, .unset, .unset] []) _
        obtain ⟨T35, h35, X35, e35, E35, A35, D35, -, st35⟩ := newO X8 hx hZ8 hown8 (hw _ (List.mem_of_getElem? (i := 12) rfl)) (hw _ (List.mem_of_getElem? (i := 13) rfl)) (hw _ (List.mem_of_getElem? (i := 14) rfl)) rfl (g := (mkF m 134 #[.val (.int p1), .val (.int p2), .val (.int p3), .val (.int p4), .val (.int (0 : Int32)), .val (.int z4), .val (.ref b6), .val (.ref b6), .val (.ref b9), .val (.ref b6), .val (.int z30), .val (.int z32), .val (.int z34), .val .null, .unset, .unset] [])) rfl (hb hby at_134) (by decide) (by decide)
        obtain ⟨b35, g35⟩ : ∃ z, z = T8.heap.size := ⟨_, rfl⟩
        rw [← g35] at A35 D35 st35
        have g_b35 : n0 ≤ b35 := Nat.le_trans (Nat.le_trans (Nat.le_trans Z0 K5.1) K8.1) (Nat.le_of_eq g35.symm)
        have F_name_b35 : Fld Z h35 b35 "com/example/enrout/enrout/broker/cli/Option" "name" "Ljava/lang/String;" .null := D35 (Or.inr (hw _ (List.mem_of_getElem? (i := 27) rfl))) (ty := (.object "java/lang/String")) (by decide)
        have F_value_b35 : Fld Z h35 b35 "com/example/enrout/enrout/broker/cli/Option" "value" "Ljava/lang/String;" .null := D35 (Or.inr (hw _ (List.mem_of_getElem? (i := 29) rfl))) (ty := (.object "java/lang/String")) (by decide)
        have F_help_b35 : Fld Z h35 b35 "com/example/enrout/enrout/broker/cli/Option" "help" "Ljava/lang/String;" .null := D35 (Or.inr (hw _ (List.mem_of_getElem? (i := 31) rfl))) (ty := (.object "java/lang/String")) (by decide)
        have F_defaultValue_b35 : Fld Z h35 b35 "com/example/enrout/enrout/broker/cli/Option" "defaultValue" "Ljava/lang/String;" .null := D35 (Or.inr (hw _ (List.mem_of_getElem? (i := 33) rfl))) (ty := (.object "java/lang/String")) (by decide)
        have F_required_b35 : Fld Z h35 b35 "com/example/enrout/enrout/broker/cli/Option" "required" "Z" (.int (0 : Int32)) := D35 (Or.inr (hw _ (List.mem_of_getElem? (i := 35) rfl))) (ty := .boolean) (by decide)
        have F_repeatable_b35 : Fld Z h35 b35 "com/example/enrout/enrout/broker/cli/Option" "repeatable" "Z" (.int (0 : Int32)) := D35 (Or.inr (hw _ (List.mem_of_getElem? (i := 37) rfl))) (ty := .boolean) (by decide)
        have F_several_b35 : Fld Z h35 b35 "com/example/enrout/enrout/broker/cli/Option" "several" "Z" (.int (0 : Int32)) := D35 (Or.inr (hw _ (List.mem_of_getElem? (i := 39) rfl))) (ty := .boolean) (by decide)
        refine go1 st35 ?_
        show Go p.tables e below T35 (mkF m 137 #[.val (.int p1), .val (.int p2), .val (.int p3), .val (.int p4), .val (.int (0 : Int32)), .val (.int z4), .val (.ref b6), .val (.ref b6), .val (.ref b9), .val (.ref b6), .val (.int z30), .val (.int z32), .val (.int z34), .val .null, .unset, .unset] [(.ref b35)]) _
        refine go1 (fun _ => XS.dup X35.here hx rfl (hb hby at_137) rfl rfl) ?_
        show Go p.tables e below T35 (mkF m 138 #[.val (.int p1), .val (.int p2), .val (.int p3), .val (.int p4), .val (.int (0 : Int32)), .val (.int z4), .val (.ref b6), .val (.ref b6), .val (.ref b9), .val (.ref b6), .val (.int z30), .val (.int z32), .val (.int z34), .val .null, .unset, .unset] [(.ref b35), (.ref b35)]) _
        refine go1 (fun _ => XS.aload X35.here hx rfl (hb hby at_138) rfl rfl) ?_
        show Go p.tables e below T35 (mkF m 140 #[.val (.int p1), .val (.int p2), .val (.int p3), .val (.int p4), .val (.int (0 : Int32)), .val (.int z4), .val (.ref b6), .val (.ref b6), .val (.ref b9), .val (.ref b6), .val (.int z30), .val (.int z32), .val (.int z34), .val .null, .unset, .unset] [(.ref b6), (.ref b35), (.ref b35)]) _
        refine go1 (fun _ => XS.aload X35.here hx rfl (hb hby at_140) rfl rfl) ?_
        show Go p.tables e below T35 (mkF m 142 #[.val (.int p1), .val (.int p2), .val (.int p3), .val (.int p4), .val (.int (0 : Int32)), .val (.int z4), .val (.ref b6), .val (.ref b6), .val (.ref b9), .val (.ref b6), .val (.int z30), .val (.int z32), .val (.int z34), .val .null, .unset, .unset] [.null, (.ref b6), (.ref b35), (.ref b35)]) _
        refine go1 (fun _ => XS.aload X35.here hx rfl (hb hby at_142) rfl rfl) ?_
        show Go p.tables e below T35 (mkF m 144 #[.val (.int p1), .val (.int p2), .val (.int p3), .val (.int p4), .val (.int (0 : Int32)), .val (.int z4), .val (.ref b6), .val (.ref b6), .val (.ref b9), .val (.ref b6), .val (.int z30), .val (.int z32), .val (.int z34), .val .null, .unset, .unset] [(.ref b9), .null, (.ref b6), (.ref b35), (.ref b35)]) _
        refine go1 (fun _ => XS.aload X35.here hx rfl (hb hby at_144) rfl rfl) ?_
        show Go p.tables e below T35 (mkF m 146 #[.val (.int p1), .val (.int p2), .val (.int p3), .val (.int p4), .val (.int (0 : Int32)), .val (.int z4), .val (.ref b6), .val (.ref b6), .val (.ref b9), .val (.ref b6), .val (.int z30), .val (.int z32), .val (.int z34), .val .null, .unset, .unset] [(.ref b6), (.ref b9), .null, (.ref b6), (.ref b35), (.ref b35)]) _
        refine go1 (fun _ => XS.iload X35.here hx rfl (hb hby at_146) rfl) ?_
        show Go p.tables e below T35 (mkF m 148 #[.val (.int p1), .val (.int p2), .val (.int p3), .val (.int p4), .val (.int (0 : Int32)), .val (.int z4), .val (.ref b6), .val (.ref b6), .val (.ref b9), .val (.ref b6), .val (.int z30), .val (.int z32), .val (.int z34), .val .null, .unset, .unset] [(.int z30), (.ref b6), (.ref b9), .null, (.ref b6), (.ref b35), (.ref b35)]) _
        refine go1 (fun _ => XS.iload X35.here hx rfl (hb hby at_148) rfl) ?_
        show Go p.tables e below T35 (mkF m 150 #[.val (.int p1), .val (.int p2), .val (.int p3), .val (.int p4), .val (.int (0 : Int32)), .val (.int z4), .val (.ref b6), .val (.ref b6), .val (.ref b9), .val (.ref b6), .val (.int z30), .val (.int z32), .val (.int z34), .val .null, .unset, .unset] [(.int z32), (.int z30), (.ref b6), (.ref b9), .null, (.ref b6), (.ref b35), (.ref b35)]) _
        refine go1 (fun _ => XS.iload X35.here hx rfl (hb hby at_150) rfl) ?_
        show Go p.tables e below T35 (mkF m 152 #[.val (.int p1), .val (.int p2), .val (.int p3), .val (.int p4), .val (.int (0 : Int32)), .val (.int z4), .val (.ref b6), .val (.ref b6), .val (.ref b9), .val (.ref b6), .val (.int z30), .val (.int z32), .val (.int z34), .val .null, .unset, .unset] [(.int z34), (.int z32), (.int z30), (.ref b6), (.ref b9), .null, (.ref b6), (.ref b35), (.ref b35)]) _
        obtain ⟨_, _, ⟨T36, L36, k36, n36⟩, -, X36, ⟨Lc36, hQ36, l36, y36, z36⟩, st36⟩ := X35.specialBack hx (y := (⟨"com/example/enrout/enrout/broker/cli/Option", "<init>", "(Ljava/lang/String;Ljava/lang/String;Ljava/lang/String;Ljava/lang/String;ZZZ)V"⟩ : MethodName)) rfl hown8 (mvT hZ8 (hw _ (List.mem_of_getElem? (i := 15) rfl))) (mvT hZ8 (hw _ (List.mem_of_getElem? (i := 16) rfl))) (mvT hZ8 (hw _ (List.mem_of_getElem? (i := 17) rfl))) (by decide) (backOf (W := 1) (rm2 l Z a0 hw [] b35 (.ref b6) .null (.ref b9) (.ref b6) z30 z32 z34 h35 n0 (Nat.le_trans (Nat.le_trans (Nat.le_trans Z0 K5.1) K8.1) E35.1) F_name_b35 F_value_b35 F_help_b35 F_defaultValue_b35 F_required_b35 F_repeatable_b35 F_several_b35 A35 g_b35 (by first | assumption | decide | rfl) (by first | assumption | decide | rfl) (by first | assumption | decide | rfl) (by first | assumption | decide | rfl)) hZ8 (hw _ (List.mem_of_getElem? (i := 17) rfl)) (hw _ (List.mem_of_getElem? (i := 14) rfl)) (by decide) (by decide)) (g := (mkF m 152 #[.val (.int p1), .val (.int p2), .val (.int p3), .val (.int p4), .val (.int (0 : Int32)), .val (.int z4), .val (.ref b6), .val (.ref b6), .val (.ref b9), .val (.ref b6), .val (.int z30), .val (.int z32), .val (.int z34), .val .null, .unset, .unset] [(.int z34), (.int z32), (.int z30), (.ref b6), (.ref b9), .null, (.ref b6), (.ref b35), (.ref b35)])) rfl (by rw [hml]; rfl) (Steps.refl _) (a := b35) (argsL := [(.ref b6), .null, (.ref b9), (.ref b6), (.int z30), (.int z32), (.int z34)]) (rest := [(.ref b35)]) (lenOf pd0_1 rfl) rfl (by show 2 * 0 + _ ≤ _; exact Nat.le_of_eq rfl) (hb hby at_152) (fun _ _ => ⟨rfl, e35, (by decide : 7 + 0 ≤ _), (by decide : 23 + 0 ≤ _)⟩)
        dsimp only [Pt.U, Pt.locs, Pt.cells, Pt.slots] at X36 l36 y36 z36 st36 hQ36
        subst l36 y36 z36
        obtain ⟨rfl, N36q, K36, G36_0, G36_1⟩ := hQ36
        have N36 := Fr.app N8 N36q
        refine goT st36 ?_
        show Go p.tables e below T36 (mkF m 155 #[.val (.int p1), .val (.int p2), .val (.int p3), .val (.int p4), .val (.int (0 : Int32)), .val (.int z4), .val (.ref b6), .val (.ref b6), .val (.ref b9), .val (.ref b6), .val (.int z30), .val (.int z32), .val (.int z34), .val .null, .unset, .unset] [(.ref b35)]) _
        refine go1 (fun _ => XS.astore X36.here hx rfl (hb hby at_155) rfl rfl (l' := #[.val (.int p1), .val (.int p2), .val (.int p3), .val (.int p4), .val (.int (0 : Int32)), .val (.int z4), .val (.ref b6), .val (.ref b6), .val (.ref b9), .val (.ref b6), .val (.int z30), .val (.int z32), .val (.int z34), .val .null, .val (.ref b35), .unset]) rfl) ?_
        show Go p.tables e below T36 (mkF m 157 #[.val (.int p1), .val (.int p2), .val (.int p3), .val (.int p4), .val (.int (0 : Int32)), .val (.int z4), .val (.ref b6), .val (.ref b6), .val (.ref b9), .val (.ref b6), .val (.int z30), .val (.int z32), .val (.int z34), .val .null, .val (.ref b35), .unset] []) _
        refine go1 (fun _ => XS.aload X36.here hx rfl (hb hby at_157) rfl rfl) ?_
        show Go p.tables e below T36 (mkF m 159 #[.val (.int p1), .val (.int p2), .val (.int p3), .val (.int p4), .val (.int (0 : Int32)), .val (.int z4), .val (.ref b6), .val (.ref b6), .val (.ref b9), .val (.ref b6), .val (.int z30), .val (.int z32), .val (.int z34), .val .null, .val (.ref b35), .unset] [(.ref b35)]) _
        obtain ⟨cq37, kq37, q37a, q37b, q37c⟩ := isOf hZ8 rfl G36_0
        obtain ⟨_, _, ⟨T37, L37, k37, n37⟩, -, X37, ⟨Lc37, hQ37, l37, y37, z37⟩, st37⟩ := X36.virtualBack hx (y := (⟨"com/example/enrout/enrout/broker/cli/Option", "isFlag", "()Z"⟩ : MethodName)) (z := (⟨"com/example/enrout/enrout/broker/cli/Option", "isFlag", "()Z"⟩ : MethodName)) hown8 (mvT hZ8 (hw _ (List.mem_of_getElem? (i := 40) rfl))) (mvT hZ8 (hw _ (List.mem_of_getElem? (i := 41) rfl))) (notFace_of_selects (args := #[]) (mvT hZ8 (hw _ (List.mem_of_getElem? (i := 43) rfl)))) (mvT hZ8 (hw _ (List.mem_of_getElem? (i := 43) rfl))) (mvT hZ8 (hw _ (List.mem_of_getElem? (i := 42) rfl))) (by decide) (backOf (W := 0) (rmisa l Z a0 hw [] b35 T36.heap n0 (Nat.le_trans (Nat.le_trans (Nat.le_trans (Nat.le_trans Z0 K5.1) K8.1) E35.1) K36.1) G36_1) hZ8 (hw _ (List.mem_of_getElem? (i := 44) rfl)) (hw _ (List.mem_of_getElem? (i := 14) rfl)) (by decide) (by decide)) q37a q37c (g := (mkF m 159 #[.val (.int p1), .val (.int p2), .val (.int p3), .val (.int p4), .val (.int (0 : Int32)), .val (.int z4), .val (.ref b6), .val (.ref b6), .val (.ref b9), .val (.ref b6), .val (.int z30), .val (.int z32), .val (.int z34), .val .null, .val (.ref b35), .unset] [(.ref b35)])) rfl (by rw [hml]; rfl) (Steps.refl _) (argsL := []) (rest := []) (lenOf pd0_2 rfl) rfl (by show 2 * 0 + _ ≤ _; exact Nat.le_of_eq rfl) (hb hby at_159) (fun _ _ => ⟨rfl, rfl, (by decide : 7 + 0 ≤ _), (by decide : 23 + 0 ≤ _)⟩)
        dsimp only [Pt.U, Pt.locs, Pt.cells, Pt.slots] at X37 l37 y37 z37 st37 hQ37
        subst l37 y37 z37
        obtain ⟨rfl, N37q, e37⟩ := hQ37
        have N37 := Fr.app N36 N37q
        refine goT st37 ?_
        show Go p.tables e below T37 (mkF m 162 #[.val (.int p1), .val (.int p2), .val (.int p3), .val (.int p4), .val (.int (0 : Int32)), .val (.int z4), .val (.ref b6), .val (.ref b6), .val (.ref b9), .val (.ref b6), .val (.int z30), .val (.int z32), .val (.int z34), .val .null, .val (.ref b35), .unset] [(.int (1 : Int32))]) _
        refine go1 (fun _ => XS.iload X37.here hx rfl (hb hby at_162) rfl) ?_
        show Go p.tables e below T37 (mkF m 164 #[.val (.int p1), .val (.int p2), .val (.int p3), .val (.int p4), .val (.int (0 : Int32)), .val (.int z4), .val (.ref b6), .val (.ref b6), .val (.ref b9), .val (.ref b6), .val (.int z30), .val (.int z32), .val (.int z34), .val .null, .val (.ref b35), .unset] [(.int (0 : Int32)), (.int (1 : Int32))]) _
        refine go1 (fun _ => XS.ifNo X37.here hx rfl (hb hby at_164) rfl ((if0 _ _).trans (teq (by decide : (0 : Int32) = (0 : Int32))).2)) ?_
        show Go p.tables e below T37 (mkF m 167 #[.val (.int p1), .val (.int p2), .val (.int p3), .val (.int p4), .val (.int (0 : Int32)), .val (.int z4), .val (.ref b6), .val (.ref b6), .val (.ref b9), .val (.ref b6), .val (.int z30), .val (.int z32), .val (.int z34), .val .null, .val (.ref b35), .unset] [(.int (1 : Int32))]) _
        refine go1 (fun _ => XS.iconst X37.here hx rfl (hb hby at_167)) ?_
        show Go p.tables e below T37 (mkF m 168 #[.val (.int p1), .val (.int p2), .val (.int p3), .val (.int p4), .val (.int (0 : Int32)), .val (.int z4), .val (.ref b6), .val (.ref b6), .val (.ref b9), .val (.ref b6), .val (.int z30), .val (.int z32), .val (.int z34), .val .null, .val (.ref b35), .unset] [(.int (1 : Int32)), (.int (1 : Int32))]) _
        refine go1 (fun _ => XS.goto X37.here hx rfl (pc0 := 168) (pc' := 172) rfl (hb hby at_168) (by decide) (by decide)) ?_
        show Go p.tables e below T37 (mkF m 172 #[.val (.int p1), .val (.int p2), .val (.int p3), .val (.int p4), .val (.int (0 : Int32)), .val (.int z4), .val (.ref b6), .val (.ref b6), .val (.ref b9), .val (.ref b6), .val (.int z30), .val (.int z32), .val (.int z34), .val .null, .val (.ref b35), .unset] [(.int (1 : Int32)), (.int (1 : Int32))]) _
        refine go1 (fun _ => XS.icmpNo X37.here hx rfl (hb hby at_172) rfl (teq (by decide : (1 : Int32) = (1 : Int32))).2) ?_
        show Go p.tables e below T37 (mkF m 175 #[.val (.int p1), .val (.int p2), .val (.int p3), .val (.int p4), .val (.int (0 : Int32)), .val (.int z4), .val (.ref b6), .val (.ref b6), .val (.ref b9), .val (.ref b6), .val (.int z30), .val (.int z32), .val (.int z34), .val .null, .val (.ref b35), .unset] []) _
        refine go1 (fun _ => XS.iconst X37.here hx rfl (hb hby at_175)) ?_
        show Go p.tables e below T37 (mkF m 176 #[.val (.int p1), .val (.int p2), .val (.int p3), .val (.int p4), .val (.int (0 : Int32)), .val (.int z4), .val (.ref b6), .val (.ref b6), .val (.ref b9), .val (.ref b6), .val (.int z30), .val (.int z32), .val (.int z34), .val .null, .val (.ref b35), .unset] [(.int (1 : Int32))]) _
        refine go1 (fun _ => XS.goto X37.here hx rfl (pc0 := 176) (pc' := 180) rfl (hb hby at_176) (by decide) (by decide)) ?_
        show Go p.tables e below T37 (mkF m 180 #[.val (.int p1), .val (.int p2), .val (.int p3), .val (.int p4), .val (.int (0 : Int32)), .val (.int z4), .val (.ref b6), .val (.ref b6), .val (.ref b9), .val (.ref b6), .val (.int z30), .val (.int z32), .val (.int z34), .val .null, .val (.ref b35), .unset] [(.int (1 : Int32))]) _
        refine go1 (fun _ => XS.istore X37.here hx rfl (hb hby at_180) rfl (l' := #[.val (.int p1), .val (.int p2), .val (.int p3), .val (.int p4), .val (.int (0 : Int32)), .val (.int z4), .val (.ref b6), .val (.ref b6), .val (.ref b9), .val (.ref b6), .val (.int z30), .val (.int z32), .val (.int z34), .val .null, .val (.ref b35), .val (.int (1 : Int32))]) rfl) ?_
        show Go p.tables e below T37 (mkF m 182 #[.val (.int p1), .val (.int p2), .val (.int p3), .val (.int p4), .val (.int (0 : Int32)), .val (.int z4), .val (.ref b6), .val (.ref b6), .val (.ref b9), .val (.ref b6), .val (.int z30), .val (.int z32), .val (.int z34), .val .null, .val (.ref b35), .val (.int (1 : Int32))] []) _
        refine go1 (fun _ => XS.iload X37.here hx rfl (hb hby at_182) rfl) ?_
        show Go p.tables e below T37 (mkF m 184 #[.val (.int p1), .val (.int p2), .val (.int p3), .val (.int p4), .val (.int (0 : Int32)), .val (.int z4), .val (.ref b6), .val (.ref b6), .val (.ref b9), .val (.ref b6), .val (.int z30), .val (.int z32), .val (.int z34), .val .null, .val (.ref b35), .val (.int (1 : Int32))] [(.int (1 : Int32))]) _
        refine go1 (fun _ => XS.ifNo X37.here hx rfl (hb hby at_184) rfl ((if0 _ _).trans (feq (by decide : ¬ ((1 : Int32) = (0 : Int32)))).1)) ?_
        show Go p.tables e below T37 (mkF m 187 #[.val (.int p1), .val (.int p2), .val (.int p3), .val (.int p4), .val (.int (0 : Int32)), .val (.int z4), .val (.ref b6), .val (.ref b6), .val (.ref b9), .val (.ref b6), .val (.int z30), .val (.int z32), .val (.int z34), .val .null, .val (.ref b35), .val (.int (1 : Int32))] []) _
        refine go1 (fun _ => XS.aload X37.here hx rfl (hb hby at_187) rfl rfl) ?_
        show Go p.tables e below T37 (mkF m 189 #[.val (.int p1), .val (.int p2), .val (.int p3), .val (.int p4), .val (.int (0 : Int32)), .val (.int z4), .val (.ref b6), .val (.ref b6), .val (.ref b9), .val (.ref b6), .val (.int z30), .val (.int z32), .val (.int z34), .val .null, .val (.ref b35), .val (.int (1 : Int32))] [(.ref b6)]) _
        refine go1 (fun _ => XS.aload X37.here hx rfl (hb hby at_189) rfl rfl) ?_
        show Go p.tables e below T37 (mkF m 191 #[.val (.int p1), .val (.int p2), .val (.int p3), .val (.int p4), .val (.int (0 : Int32)), .val (.int z4), .val (.ref b6), .val (.ref b6), .val (.ref b9), .val (.ref b6), .val (.int z30), .val (.int z32), .val (.int z34), .val .null, .val (.ref b35), .val (.int (1 : Int32))] [(.ref b9), (.ref b6)]) _
        obtain ⟨_, _, ⟨T38, L38, k38, n38⟩, -, X38, ⟨Lc38, hQ38, l38, y38, z38⟩, st38⟩ := Jvm.LawKit.callS X37 hx (y := (⟨"com/example/enrout/enrout/broker/cli/Option", "flag", "(Ljava/lang/String;Ljava/lang/String;)Lcom/example/enrout/enrout/broker/cli/Option;"⟩ : MethodName)) hown8 (mvT hZ8 (hw _ (List.mem_of_getElem? (i := 45) rfl))) (mvT hZ8 (hw _ (List.mem_of_getElem? (i := 46) rfl))) (mvT hZ8 (hw _ (List.mem_of_getElem? (i := 14) rfl))) (mvT hZ8 (hw _ (List.mem_of_getElem? (i := 47) rfl))) (by decide) (backOf (W := 0) (rm6 l Z a0 hw [] b6 b9 T36.heap n0 (Nat.le_trans (Nat.le_trans (Nat.le_trans (Nat.le_trans Z0 K5.1) K8.1) E35.1) K36.1) ) hZ8 (hw _ (List.mem_of_getElem? (i := 47) rfl)) (hw _ (List.mem_of_getElem? (i := 14) rfl)) (by decide) (by decide)) (g := (mkF m 191 #[.val (.int p1), .val (.int p2), .val (.int p3), .val (.int p4), .val (.int (0 : Int32)), .val (.int z4), .val (.ref b6), .val (.ref b6), .val (.ref b9), .val (.ref b6), .val (.int z30), .val (.int z32), .val (.int z34), .val .null, .val (.ref b35), .val (.int (1 : Int32))] [(.ref b9), (.ref b6)])) rfl (by rw [hml]; rfl) (argsL := [(.ref b6), (.ref b9)]) (rest := []) (lenOf pd0_3 rfl) rfl (by show 2 * 0 + _ ≤ _; exact Nat.le_of_eq rfl) (hb hby at_191) (fun _ _ => ⟨rfl, e37, (by decide : 7 + 1 ≤ _), (by decide : 23 + 7 ≤ _)⟩)
        dsimp only [Pt.U, Pt.locs, Pt.cells, Pt.slots] at X38 l38 y38 z38 st38 hQ38
        subst l38 y38 z38
        obtain ⟨b39, rfl, N38q, K38, G38_0, G38_1⟩ := hQ38
        have N38 := Fr.app N37 N38q
        refine go1 st38 ?_
        show Go p.tables e below T38 (mkF m 194 #[.val (.int p1), .val (.int p2), .val (.int p3), .val (.int p4), .val (.int (0 : Int32)), .val (.int z4), .val (.ref b6), .val (.ref b6), .val (.ref b9), .val (.ref b6), .val (.int z30), .val (.int z32), .val (.int z34), .val .null, .val (.ref b35), .val (.int (1 : Int32))] [(.ref b39)]) _
        obtain ⟨cq40, kq40, q40a, q40b, q40c⟩ := isOf hZ8 rfl G38_0
        obtain ⟨_, _, ⟨T40, L40, k40, n40⟩, -, X40, ⟨Lc40, hQ40, l40, y40, z40⟩, st40⟩ := X38.virtualBack hx (y := (⟨"com/example/enrout/enrout/broker/cli/Option", "isFlag", "()Z"⟩ : MethodName)) (z := (⟨"com/example/enrout/enrout/broker/cli/Option", "isFlag", "()Z"⟩ : MethodName)) hown8 (mvT hZ8 (hw _ (List.mem_of_getElem? (i := 40) rfl))) (mvT hZ8 (hw _ (List.mem_of_getElem? (i := 41) rfl))) (notFace_of_selects (args := #[]) (mvT hZ8 (hw _ (List.mem_of_getElem? (i := 43) rfl)))) (mvT hZ8 (hw _ (List.mem_of_getElem? (i := 43) rfl))) (mvT hZ8 (hw _ (List.mem_of_getElem? (i := 42) rfl))) (by decide) (backOf (W := 0) (rmisa l Z a0 hw [] b39 T38.heap n0 (Nat.le_trans (Nat.le_trans (Nat.le_trans (Nat.le_trans (Nat.le_trans Z0 K5.1) K8.1) E35.1) K36.1) K38.1) G38_1) hZ8 (hw _ (List.mem_of_getElem? (i := 44) rfl)) (hw _ (List.mem_of_getElem? (i := 14) rfl)) (by decide) (by decide)) q40a q40c (g := (mkF m 194 #[.val (.int p1), .val (.int p2), .val (.int p3), .val (.int p4), .val (.int (0 : Int32)), .val (.int z4), .val (.ref b6), .val (.ref b6), .val (.ref b9), .val (.ref b6), .val (.int z30), .val (.int z32), .val (.int z34), .val .null, .val (.ref b35), .val (.int (1 : Int32))] [(.ref b39)])) rfl (by rw [hml]; rfl) (Steps.refl _) (argsL := []) (rest := []) (lenOf pd0_2 rfl) rfl (by show 2 * 0 + _ ≤ _; exact Nat.le_of_eq rfl) (hb hby at_194) (fun _ _ => ⟨rfl, rfl, (by decide : 8 + 0 ≤ _), (by decide : 30 + 0 ≤ _)⟩)
        dsimp only [Pt.U, Pt.locs, Pt.cells, Pt.slots] at X40 l40 y40 z40 st40 hQ40
        subst l40 y40 z40
        obtain ⟨rfl, N40q, e40⟩ := hQ40
        have N40 := Fr.app N38 N40q
        refine goT st40 ?_
        show Go p.tables e below T40 (mkF m 197 #[.val (.int p1), .val (.int p2), .val (.int p3), .val (.int p4), .val (.int (0 : Int32)), .val (.int z4), .val (.ref b6), .val (.ref b6), .val (.ref b9), .val (.ref b6), .val (.int z30), .val (.int z32), .val (.int z34), .val .null, .val (.ref b35), .val (.int (1 : Int32))] [(.int (1 : Int32))]) _
        refine go1 (fun _ => XS.ifNo X40.here hx rfl (hb hby at_197) rfl ((if0 _ _).trans (feq (by decide : ¬ ((1 : Int32) = (0 : Int32)))).1)) ?_
        show Go p.tables e below T40 (mkF m 200 #[.val (.int p1), .val (.int p2), .val (.int p3), .val (.int p4), .val (.int (0 : Int32)), .val (.int z4), .val (.ref b6), .val (.ref b6), .val (.ref b9), .val (.ref b6), .val (.int z30), .val (.int z32), .val (.int z34), .val .null, .val (.ref b35), .val (.int (1 : Int32))] []) _
        refine go1 (fun _ => XS.iconst X40.here hx rfl (hb hby at_200)) ?_
        show Go p.tables e below T40 (mkF m 201 #[.val (.int p1), .val (.int p2), .val (.int p3), .val (.int p4), .val (.int (0 : Int32)), .val (.int z4), .val (.ref b6), .val (.ref b6), .val (.ref b9), .val (.ref b6), .val (.int z30), .val (.int z32), .val (.int z34), .val .null, .val (.ref b35), .val (.int (1 : Int32))] [(.int (1 : Int32))]) _
        refine go1 (fun _ => XS.goto X40.here hx rfl (pc0 := 201) (pc' := 205) rfl (hb hby at_201) (by decide) (by decide)) ?_
        show Go p.tables e below T40 (mkF m 205 #[.val (.int p1), .val (.int p2), .val (.int p3), .val (.int p4), .val (.int (0 : Int32)), .val (.int z4), .val (.ref b6), .val (.ref b6), .val (.ref b9), .val (.ref b6), .val (.int z30), .val (.int z32), .val (.int z34), .val .null, .val (.ref b35), .val (.int (1 : Int32))] [(.int (1 : Int32))]) _
        refine go1 (fun _ => XS.istore X40.here hx rfl (hb hby at_205) rfl (l' := #[.val (.int p1), .val (.int p2), .val (.int p3), .val (.int p4), .val (.int (0 : Int32)), .val (.int z4), .val (.ref b6), .val (.ref b6), .val (.ref b9), .val (.ref b6), .val (.int z30), .val (.int z32), .val (.int z34), .val .null, .val (.ref b35), .val (.int (1 : Int32))]) rfl) ?_
        show Go p.tables e below T40 (mkF m 207 #[.val (.int p1), .val (.int p2), .val (.int p3), .val (.int p4), .val (.int (0 : Int32)), .val (.int z4), .val (.ref b6), .val (.ref b6), .val (.ref b9), .val (.ref b6), .val (.int z30), .val (.int z32), .val (.int z34), .val .null, .val (.ref b35), .val (.int (1 : Int32))] []) _
        refine go1 (fun _ => XS.iload X40.here hx rfl (hb hby at_207) rfl) ?_
        show Go p.tables e below T40 (mkF m 209 #[.val (.int p1), .val (.int p2), .val (.int p3), .val (.int p4), .val (.int (0 : Int32)), .val (.int z4), .val (.ref b6), .val (.ref b6), .val (.ref b9), .val (.ref b6), .val (.int z30), .val (.int z32), .val (.int z34), .val .null, .val (.ref b35), .val (.int (1 : Int32))] [(.int (1 : Int32))]) _
        refine go1 (fun _ => XS.ifNo X40.here hx rfl (hb hby at_209) rfl ((if0 _ _).trans (feq (by decide : ¬ ((1 : Int32) = (0 : Int32)))).1)) ?_
        show Go p.tables e below T40 (mkF m 212 #[.val (.int p1), .val (.int p2), .val (.int p3), .val (.int p4), .val (.int (0 : Int32)), .val (.int z4), .val (.ref b6), .val (.ref b6), .val (.ref b9), .val (.ref b6), .val (.int z30), .val (.int z32), .val (.int z34), .val .null, .val (.ref b35), .val (.int (1 : Int32))] []) _
        refine go1 (fun _ => XS.aload X40.here hx rfl (hb hby at_212) rfl rfl) ?_
        show Go p.tables e below T40 (mkF m 214 #[.val (.int p1), .val (.int p2), .val (.int p3), .val (.int p4), .val (.int (0 : Int32)), .val (.int z4), .val (.ref b6), .val (.ref b6), .val (.ref b9), .val (.ref b6), .val (.int z30), .val (.int z32), .val (.int z34), .val .null, .val (.ref b35), .val (.int (1 : Int32))] [(.ref b6)]) _
        refine go1 (fun _ => XS.aload X40.here hx rfl (hb hby at_214) rfl rfl) ?_
        show Go p.tables e below T40 (mkF m 216 #[.val (.int p1), .val (.int p2), .val (.int p3), .val (.int p4), .val (.int (0 : Int32)), .val (.int z4), .val (.ref b6), .val (.ref b6), .val (.ref b9), .val (.ref b6), .val (.int z30), .val (.int z32), .val (.int z34), .val .null, .val (.ref b35), .val (.int (1 : Int32))] [(.ref b9), (.ref b6)]) _
        obtain ⟨_, _, ⟨T41, L41, k41, n41⟩, -, X41, ⟨Lc41, hQ41, l41, y41, z41⟩, st41⟩ := Jvm.LawKit.callS X40 hx (y := (⟨"com/example/enrout/enrout/broker/cli/Option", "operand", "(Ljava/lang/String;Ljava/lang/String;)Lcom/example/enrout/enrout/broker/cli/Option;"⟩ : MethodName)) hown8 (mvT hZ8 (hw _ (List.mem_of_getElem? (i := 50) rfl))) (mvT hZ8 (hw _ (List.mem_of_getElem? (i := 51) rfl))) (mvT hZ8 (hw _ (List.mem_of_getElem? (i := 14) rfl))) (mvT hZ8 (hw _ (List.mem_of_getElem? (i := 52) rfl))) (by decide) (backOf (W := 0) (rm7 l Z a0 hw [] b6 b9 T38.heap n0 (Nat.le_trans (Nat.le_trans (Nat.le_trans (Nat.le_trans (Nat.le_trans Z0 K5.1) K8.1) E35.1) K36.1) K38.1) ) hZ8 (hw _ (List.mem_of_getElem? (i := 52) rfl)) (hw _ (List.mem_of_getElem? (i := 14) rfl)) (by decide) (by decide)) (g := (mkF m 216 #[.val (.int p1), .val (.int p2), .val (.int p3), .val (.int p4), .val (.int (0 : Int32)), .val (.int z4), .val (.ref b6), .val (.ref b6), .val (.ref b9), .val (.ref b6), .val (.int z30), .val (.int z32), .val (.int z34), .val .null, .val (.ref b35), .val (.int (1 : Int32))] [(.ref b9), (.ref b6)])) rfl (by rw [hml]; rfl) (argsL := [(.ref b6), (.ref b9)]) (rest := []) (lenOf pd0_3 rfl) rfl (by show 2 * 0 + _ ≤ _; exact Nat.le_of_eq rfl) (hb hby at_216) (fun _ _ => ⟨rfl, e40, (by decide : 8 + 1 ≤ _), (by decide : 30 + 7 ≤ _)⟩)
        dsimp only [Pt.U, Pt.locs, Pt.cells, Pt.slots] at X41 l41 y41 z41 st41 hQ41
        subst l41 y41 z41
        obtain ⟨b42, rfl, N41q, K41, G41_0, G41_1⟩ := hQ41
        have N41 := Fr.app N40 N41q
        refine go1 st41 ?_
        show Go p.tables e below T41 (mkF m 219 #[.val (.int p1), .val (.int p2), .val (.int p3), .val (.int p4), .val (.int (0 : Int32)), .val (.int z4), .val (.ref b6), .val (.ref b6), .val (.ref b9), .val (.ref b6), .val (.int z30), .val (.int z32), .val (.int z34), .val .null, .val (.ref b35), .val (.int (1 : Int32))] [(.ref b42)]) _
        obtain ⟨cq43, kq43, q43a, q43b, q43c⟩ := isOf hZ8 rfl G41_0
        obtain ⟨_, _, ⟨T43, L43, k43, n43⟩, -, X43, ⟨Lc43, hQ43, l43, y43, z43⟩, st43⟩ := X41.virtualBack hx (y := (⟨"com/example/enrout/enrout/broker/cli/Option", "isFlag", "()Z"⟩ : MethodName)) (z := (⟨"com/example/enrout/enrout/broker/cli/Option", "isFlag", "()Z"⟩ : MethodName)) hown8 (mvT hZ8 (hw _ (List.mem_of_getElem? (i := 40) rfl))) (mvT hZ8 (hw _ (List.mem_of_getElem? (i := 41) rfl))) (notFace_of_selects (args := #[]) (mvT hZ8 (hw _ (List.mem_of_getElem? (i := 43) rfl)))) (mvT hZ8 (hw _ (List.mem_of_getElem? (i := 43) rfl))) (mvT hZ8 (hw _ (List.mem_of_getElem? (i := 42) rfl))) (by decide) (backOf (W := 0) (rmisb l Z a0 hw [] b42 b6 T41.heap n0 (Nat.le_trans (Nat.le_trans (Nat.le_trans (Nat.le_trans (Nat.le_trans (Nat.le_trans Z0 K5.1) K8.1) E35.1) K36.1) K38.1) K41.1) G41_1) hZ8 (hw _ (List.mem_of_getElem? (i := 44) rfl)) (hw _ (List.mem_of_getElem? (i := 14) rfl)) (by decide) (by decide)) q43a q43c (g := (mkF m 219 #[.val (.int p1), .val (.int p2), .val (.int p3), .val (.int p4), .val (.int (0 : Int32)), .val (.int z4), .val (.ref b6), .val (.ref b6), .val (.ref b9), .val (.ref b6), .val (.int z30), .val (.int z32), .val (.int z34), .val .null, .val (.ref b35), .val (.int (1 : Int32))] [(.ref b42)])) rfl (by rw [hml]; rfl) (Steps.refl _) (argsL := []) (rest := []) (lenOf pd0_2 rfl) rfl (by show 2 * 0 + _ ≤ _; exact Nat.le_of_eq rfl) (hb hby at_219) (fun _ _ => ⟨rfl, rfl, (by decide : 9 + 0 ≤ _), (by decide : 37 + 0 ≤ _)⟩)
        dsimp only [Pt.U, Pt.locs, Pt.cells, Pt.slots] at X43 l43 y43 z43 st43 hQ43
        subst l43 y43 z43
        obtain ⟨rfl, N43q, e43⟩ := hQ43
        have N43 := Fr.app N41 N43q
        refine goT st43 ?_
        show Go p.tables e below T43 (mkF m 222 #[.val (.int p1), .val (.int p2), .val (.int p3), .val (.int p4), .val (.int (0 : Int32)), .val (.int z4), .val (.ref b6), .val (.ref b6), .val (.ref b9), .val (.ref b6), .val (.int z30), .val (.int z32), .val (.int z34), .val .null, .val (.ref b35), .val (.int (1 : Int32))] [(.int (0 : Int32))]) _
        refine go1 (fun _ => XS.ifNo X43.here hx rfl (hb hby at_222) rfl ((if0 _ _).trans (teq (by decide : (0 : Int32) = (0 : Int32))).2)) ?_
        show Go p.tables e below T43 (mkF m 225 #[.val (.int p1), .val (.int p2), .val (.int p3), .val (.int p4), .val (.int (0 : Int32)), .val (.int z4), .val (.ref b6), .val (.ref b6), .val (.ref b9), .val (.ref b6), .val (.int z30), .val (.int z32), .val (.int z34), .val .null, .val (.ref b35), .val (.int (1 : Int32))] []) _
        refine go1 (fun _ => XS.iconst X43.here hx rfl (hb hby at_225)) ?_
        show Go p.tables e below T43 (mkF m 226 #[.val (.int p1), .val (.int p2), .val (.int p3), .val (.int p4), .val (.int (0 : Int32)), .val (.int z4), .val (.ref b6), .val (.ref b6), .val (.ref b9), .val (.ref b6), .val (.int z30), .val (.int z32), .val (.int z34), .val .null, .val (.ref b35), .val (.int (1 : Int32))] [(.int (1 : Int32))]) _
        refine go1 (fun _ => XS.goto X43.here hx rfl (pc0 := 226) (pc' := 230) rfl (hb hby at_226) (by decide) (by decide)) ?_
        show Go p.tables e below T43 (mkF m 230 #[.val (.int p1), .val (.int p2), .val (.int p3), .val (.int p4), .val (.int (0 : Int32)), .val (.int z4), .val (.ref b6), .val (.ref b6), .val (.ref b9), .val (.ref b6), .val (.int z30), .val (.int z32), .val (.int z34), .val .null, .val (.ref b35), .val (.int (1 : Int32))] [(.int (1 : Int32))]) _
        refine go1 (fun _ => XS.istore X43.here hx rfl (hb hby at_230) rfl (l' := #[.val (.int p1), .val (.int p2), .val (.int p3), .val (.int p4), .val (.int (0 : Int32)), .val (.int z4), .val (.ref b6), .val (.ref b6), .val (.ref b9), .val (.ref b6), .val (.int z30), .val (.int z32), .val (.int z34), .val .null, .val (.ref b35), .val (.int (1 : Int32))]) rfl) ?_
        show Go p.tables e below T43 (mkF m 232 #[.val (.int p1), .val (.int p2), .val (.int p3), .val (.int p4), .val (.int (0 : Int32)), .val (.int z4), .val (.ref b6), .val (.ref b6), .val (.ref b9), .val (.ref b6), .val (.int z30), .val (.int z32), .val (.int z34), .val .null, .val (.ref b35), .val (.int (1 : Int32))] []) _
        refine go1 (fun _ => XS.iload X43.here hx rfl (hb hby at_232) rfl) ?_
        show Go p.tables e below T43 (mkF m 234 #[.val (.int p1), .val (.int p2), .val (.int p3), .val (.int p4), .val (.int (0 : Int32)), .val (.int z4), .val (.ref b6), .val (.ref b6), .val (.ref b9), .val (.ref b6), .val (.int z30), .val (.int z32), .val (.int z34), .val .null, .val (.ref b35), .val (.int (1 : Int32))] [(.int (1 : Int32))]) _
        refine go1 (fun _ => XS.ifNo X43.here hx rfl (hb hby at_234) rfl ((if0 _ _).trans (feq (by decide : ¬ ((1 : Int32) = (0 : Int32)))).1)) ?_
        show Go p.tables e below T43 (mkF m 237 #[.val (.int p1), .val (.int p2), .val (.int p3), .val (.int p4), .val (.int (0 : Int32)), .val (.int z4), .val (.ref b6), .val (.ref b6), .val (.ref b9), .val (.ref b6), .val (.int z30), .val (.int z32), .val (.int z34), .val .null, .val (.ref b35), .val (.int (1 : Int32))] []) _
        refine go1 (fun _ => XS.aload X43.here hx rfl (hb hby at_237) rfl rfl) ?_
        show Go p.tables e below T43 (mkF m 239 #[.val (.int p1), .val (.int p2), .val (.int p3), .val (.int p4), .val (.int (0 : Int32)), .val (.int z4), .val (.ref b6), .val (.ref b6), .val (.ref b9), .val (.ref b6), .val (.int z30), .val (.int z32), .val (.int z34), .val .null, .val (.ref b35), .val (.int (1 : Int32))] [(.ref b6)]) _
        refine go1 (fun _ => XS.aload X43.here hx rfl (hb hby at_239) rfl rfl) ?_
        show Go p.tables e below T43 (mkF m 241 #[.val (.int p1), .val (.int p2), .val (.int p3), .val (.int p4), .val (.int (0 : Int32)), .val (.int z4), .val (.ref b6), .val (.ref b6), .val (.ref b9), .val (.ref b6), .val (.int z30), .val (.int z32), .val (.int z34), .val .null, .val (.ref b35), .val (.int (1 : Int32))] [(.ref b6), (.ref b6)]) _
        refine go1 (fun _ => XS.aload X43.here hx rfl (hb hby at_241) rfl rfl) ?_
        show Go p.tables e below T43 (mkF m 243 #[.val (.int p1), .val (.int p2), .val (.int p3), .val (.int p4), .val (.int (0 : Int32)), .val (.int z4), .val (.ref b6), .val (.ref b6), .val (.ref b9), .val (.ref b6), .val (.int z30), .val (.int z32), .val (.int z34), .val .null, .val (.ref b35), .val (.int (1 : Int32))] [(.ref b9), (.ref b6), (.ref b6)]) _
        obtain ⟨_, _, ⟨T44, L44, k44, n44⟩, -, X44, ⟨Lc44, hQ44, l44, y44, z44⟩, st44⟩ := Jvm.LawKit.callS X43 hx (y := (⟨"com/example/enrout/enrout/broker/cli/Option", "optional", "(Ljava/lang/String;Ljava/lang/String;Ljava/lang/String;)Lcom/example/enrout/enrout/broker/cli/Option;"⟩ : MethodName)) hown8 (mvT hZ8 (hw _ (List.mem_of_getElem? (i := 53) rfl))) (mvT hZ8 (hw _ (List.mem_of_getElem? (i := 54) rfl))) (mvT hZ8 (hw _ (List.mem_of_getElem? (i := 14) rfl))) (mvT hZ8 (hw _ (List.mem_of_getElem? (i := 55) rfl))) (by decide) (backOf (W := 0) (rm8 l Z a0 hw [] b6 b6 b9 T41.heap n0 (Nat.le_trans (Nat.le_trans (Nat.le_trans (Nat.le_trans (Nat.le_trans (Nat.le_trans Z0 K5.1) K8.1) E35.1) K36.1) K38.1) K41.1) ) hZ8 (hw _ (List.mem_of_getElem? (i := 55) rfl)) (hw _ (List.mem_of_getElem? (i := 14) rfl)) (by decide) (by decide)) (g := (mkF m 243 #[.val (.int p1), .val (.int p2), .val (.int p3), .val (.int p4), .val (.int (0 : Int32)), .val (.int z4), .val (.ref b6), .val (.ref b6), .val (.ref b9), .val (.ref b6), .val (.int z30), .val (.int z32), .val (.int z34), .val .null, .val (.ref b35), .val (.int (1 : Int32))] [(.ref b9), (.ref b6), (.ref b6)])) rfl (by rw [hml]; rfl) (argsL := [(.ref b6), (.ref b6), (.ref b9)]) (rest := []) (lenOf pd0_4 rfl) rfl (by show 2 * 0 + _ ≤ _; exact Nat.le_of_eq rfl) (hb hby at_243) (fun _ _ => ⟨rfl, e43, (by decide : 9 + 1 ≤ _), (by decide : 37 + 7 ≤ _)⟩)
        dsimp only [Pt.U, Pt.locs, Pt.cells, Pt.slots] at X44 l44 y44 z44 st44 hQ44
        subst l44 y44 z44
        obtain ⟨b45, rfl, N44q, K44, G44_0, G44_1⟩ := hQ44
        have N44 := Fr.app N43 N44q
        refine go1 st44 ?_
        show Go p.tables e below T44 (mkF m 246 #[.val (.int p1), .val (.int p2), .val (.int p3), .val (.int p4), .val (.int (0 : Int32)), .val (.int z4), .val (.ref b6), .val (.ref b6), .val (.ref b9), .val (.ref b6), .val (.int z30), .val (.int z32), .val (.int z34), .val .null, .val (.ref b35), .val (.int (1 : Int32))] [(.ref b45)]) _
        obtain ⟨cq46, kq46, q46a, q46b, q46c⟩ := isOf hZ8 rfl G44_0
        obtain ⟨_, _, ⟨T46, L46, k46, n46⟩, -, X46, ⟨Lc46, hQ46, l46, y46, z46⟩, st46⟩ := X44.virtualBack hx (y := (⟨"com/example/enrout/enrout/broker/cli/Option", "isFlag", "()Z"⟩ : MethodName)) (z := (⟨"com/example/enrout/enrout/broker/cli/Option", "isFlag", "()Z"⟩ : MethodName)) hown8 (mvT hZ8 (hw _ (List.mem_of_getElem? (i := 40) rfl))) (mvT hZ8 (hw _ (List.mem_of_getElem? (i := 41) rfl))) (notFace_of_selects (args := #[]) (mvT hZ8 (hw _ (List.mem_of_getElem? (i := 43) rfl)))) (mvT hZ8 (hw _ (List.mem_of_getElem? (i := 43) rfl))) (mvT hZ8 (hw _ (List.mem_of_getElem? (i := 42) rfl))) (by decide) (backOf (W := 0) (rmisb l Z a0 hw [] b45 b6 T44.heap n0 (Nat.le_trans (Nat.le_trans (Nat.le_trans (Nat.le_trans (Nat.le_trans (Nat.le_trans (Nat.le_trans Z0 K5.1) K8.1) E35.1) K36.1) K38.1) K41.1) K44.1) G44_1) hZ8 (hw _ (List.mem_of_getElem? (i := 44) rfl)) (hw _ (List.mem_of_getElem? (i := 14) rfl)) (by decide) (by decide)) q46a q46c (g := (mkF m 246 #[.val (.int p1), .val (.int p2), .val (.int p3), .val (.int p4), .val (.int (0 : Int32)), .val (.int z4), .val (.ref b6), .val (.ref b6), .val (.ref b9), .val (.ref b6), .val (.int z30), .val (.int z32), .val (.int z34), .val .null, .val (.ref b35), .val (.int (1 : Int32))] [(.ref b45)])) rfl (by rw [hml]; rfl) (Steps.refl _) (argsL := []) (rest := []) (lenOf pd0_2 rfl) rfl (by show 2 * 0 + _ ≤ _; exact Nat.le_of_eq rfl) (hb hby at_246) (fun _ _ => ⟨rfl, rfl, (by decide : 10 + 0 ≤ _), (by decide : 44 + 0 ≤ _)⟩)
        dsimp only [Pt.U, Pt.locs, Pt.cells, Pt.slots] at X46 l46 y46 z46 st46 hQ46
        subst l46 y46 z46
        obtain ⟨rfl, N46q, e46⟩ := hQ46
        have N46 := Fr.app N44 N46q
        refine goT st46 ?_
        show Go p.tables e below T46 (mkF m 249 #[.val (.int p1), .val (.int p2), .val (.int p3), .val (.int p4), .val (.int (0 : Int32)), .val (.int z4), .val (.ref b6), .val (.ref b6), .val (.ref b9), .val (.ref b6), .val (.int z30), .val (.int z32), .val (.int z34), .val .null, .val (.ref b35), .val (.int (1 : Int32))] [(.int (0 : Int32))]) _
        refine go1 (fun _ => XS.ifNo X46.here hx rfl (hb hby at_249) rfl ((if0 _ _).trans (teq (by decide : (0 : Int32) = (0 : Int32))).2)) ?_
        show Go p.tables e below T46 (mkF m 252 #[.val (.int p1), .val (.int p2), .val (.int p3), .val (.int p4), .val (.int (0 : Int32)), .val (.int z4), .val (.ref b6), .val (.ref b6), .val (.ref b9), .val (.ref b6), .val (.int z30), .val (.int z32), .val (.int z34), .val .null, .val (.ref b35), .val (.int (1 : Int32))] []) _
        refine go1 (fun _ => XS.iconst X46.here hx rfl (hb hby at_252)) ?_
        show Go p.tables e below T46 (mkF m 253 #[.val (.int p1), .val (.int p2), .val (.int p3), .val (.int p4), .val (.int (0 : Int32)), .val (.int z4), .val (.ref b6), .val (.ref b6), .val (.ref b9), .val (.ref b6), .val (.int z30), .val (.int z32), .val (.int z34), .val .null, .val (.ref b35), .val (.int (1 : Int32))] [(.int (1 : Int32))]) _
        refine go1 (fun _ => XS.goto X46.here hx rfl (pc0 := 253) (pc' := 257) rfl (hb hby at_253) (by decide) (by decide)) ?_
        show Go p.tables e below T46 (mkF m 257 #[.val (.int p1), .val (.int p2), .val (.int p3), .val (.int p4), .val (.int (0 : Int32)), .val (.int z4), .val (.ref b6), .val (.ref b6), .val (.ref b9), .val (.ref b6), .val (.int z30), .val (.int z32), .val (.int z34), .val .null, .val (.ref b35), .val (.int (1 : Int32))] [(.int (1 : Int32))]) _
        refine go1 (fun _ => XS.istore X46.here hx rfl (hb hby at_257) rfl (l' := #[.val (.int p1), .val (.int p2), .val (.int p3), .val (.int p4), .val (.int (0 : Int32)), .val (.int z4), .val (.ref b6), .val (.ref b6), .val (.ref b9), .val (.ref b6), .val (.int z30), .val (.int z32), .val (.int z34), .val .null, .val (.ref b35), .val (.int (1 : Int32))]) rfl) ?_
        show Go p.tables e below T46 (mkF m 259 #[.val (.int p1), .val (.int p2), .val (.int p3), .val (.int p4), .val (.int (0 : Int32)), .val (.int z4), .val (.ref b6), .val (.ref b6), .val (.ref b9), .val (.ref b6), .val (.int z30), .val (.int z32), .val (.int z34), .val .null, .val (.ref b35), .val (.int (1 : Int32))] []) _
        refine go1 (fun _ => XS.iload X46.here hx rfl (hb hby at_259) rfl) ?_
        show Go p.tables e below T46 (mkF m 261 #[.val (.int p1), .val (.int p2), .val (.int p3), .val (.int p4), .val (.int (0 : Int32)), .val (.int z4), .val (.ref b6), .val (.ref b6), .val (.ref b9), .val (.ref b6), .val (.int z30), .val (.int z32), .val (.int z34), .val .null, .val (.ref b35), .val (.int (1 : Int32))] [(.int (1 : Int32))]) _
        refine goRW (s := s) (vm₁ := T8.vm) X46 hS8 (by rw [e46]; exact (Nat.le_trans (Nat.le_trans (Nat.le_trans (Nat.le_trans (Nat.le_trans (Nat.le_refl _) E35.1) K36.1) K38.1) K41.1) K44.1)) (BodyLoose.notSynchronized Bd) (v := (some (.int (1 : Int32)))) (fun h => by rw [Bd.returns] at h; cases h) (Q0 Z p1 p2 p3 p4 a_COMPACT_STRINGS h0 n0) (fun fs hr => retN X46 hx (t := .boolean) Bd.returns (by simp) (hb hby at_261) hr) (by decide) (by decide) ?_
        show Q0 Z p1 p2 p3 p4 a_COMPACT_STRINGS h0 n0 _ T46.heap _
        rw [e46]
        exact ⟨rfl, N46⟩
    · skip
      refine go1 (fun _ => XS.ifNo X5.here hx rfl (hb hby at_43) rfl ((if0 _ _).trans (feq hc7).1)) ?_
      show Go p.tables e below T5 (mkF m 46 #[.val (.int p1), .val (.int p2), .val (.int p3), .val (.int p4), .val (.int (0 : Int32)), .val (.int z4), .val (.ref b6), .unset, .unset, .unset, .unset, .unset, .unset, .unset, .unset, .unset] []) _
      obtain ⟨b47, T47, h47, kk47, X47, e47, E47, hS47, hk47, hZ47, hown47, st47⟩ := ldcS (s := s) (vm0 := T5.vm) X5 hx hZ5 hown5 (hw _ (List.mem_of_getElem? (i := 93) rfl)) wS rfl hS5 (Nat.le_refl _) (g := (mkF m 46 #[.val (.int p1), .val (.int p2), .val (.int p3), .val (.int p4), .val (.int (0 : Int32)), .val (.int z4), .val (.ref b6), .unset, .unset, .unset, .unset, .unset, .unset, .unset, .unset, .unset] [])) rfl (hb hby at_46) (n := 12) (by decide) (by decide) (by decide) (by decide)
      refine go1 st47 ?_
      show Go p.tables e below T47 (mkF m 48 #[.val (.int p1), .val (.int p2), .val (.int p3), .val (.int p4), .val (.int (0 : Int32)), .val (.int z4), .val (.ref b6), .unset, .unset, .unset, .unset, .unset, .unset, .unset, .unset, .unset] [(.ref b47)]) _
      refine go1 (fun _ => XS.goto X47.here hx rfl (pc0 := 48) (pc' := 53) rfl (hb hby at_48) (by decide) (by decide)) ?_
      show Go p.tables e below T47 (mkF m 53 #[.val (.int p1), .val (.int p2), .val (.int p3), .val (.int p4), .val (.int (0 : Int32)), .val (.int z4), .val (.ref b6), .unset, .unset, .unset, .unset, .unset, .unset, .unset, .unset, .unset] [(.ref b47)]) _
      refine go1 (fun _ => XS.astore X47.here hx rfl (hb hby at_53) rfl rfl (l' := #[.val (.int p1), .val (.int p2), .val (.int p3), .val (.int p4), .val (.int (0 : Int32)), .val (.int z4), .val (.ref b6), .val (.ref b47), .unset, .unset, .unset, .unset, .unset, .unset, .unset, .unset]) rfl) ?_
      show Go p.tables e below T47 (mkF m 55 #[.val (.int p1), .val (.int p2), .val (.int p3), .val (.int p4), .val (.int (0 : Int32)), .val (.int z4), .val (.ref b6), .val (.ref b47), .unset, .unset, .unset, .unset, .unset, .unset, .unset, .unset] []) _
      refine go1 (fun _ => XS.iloadN X47.here hx rfl (hb hby at_55) rfl) ?_
      show Go p.tables e below T47 (mkF m 56 #[.val (.int p1), .val (.int p2), .val (.int p3), .val (.int p4), .val (.int (0 : Int32)), .val (.int z4), .val (.ref b6), .val (.ref b47), .unset, .unset, .unset, .unset, .unset, .unset, .unset, .unset] [(.int p4)]) _
      refine go1 (fun _ => XS.iconst X47.here hx rfl (hb hby at_56)) ?_
      show Go p.tables e below T47 (mkF m 57 #[.val (.int p1), .val (.int p2), .val (.int p3), .val (.int p4), .val (.int (0 : Int32)), .val (.int z4), .val (.ref b6), .val (.ref b47), .unset, .unset, .unset, .unset, .unset, .unset, .unset, .unset] [(.int (5 : Int32)), (.int p4)]) _
      refine go1 (fun _ => XS.iushr X47.here hx rfl (hb hby at_57) rfl) ?_
      show Go p.tables e below T47 (mkF m 58 #[.val (.int p1), .val (.int p2), .val (.int p3), .val (.int p4), .val (.int (0 : Int32)), .val (.int z4), .val (.ref b6), .val (.ref b47), .unset, .unset, .unset, .unset, .unset, .unset, .unset, .unset] [(.int ((p4.toUInt32 >>> ((5 : Int32) &&& 31).toUInt32).toInt32))]) _
      refine go1 (fun _ => XS.iconst X47.here hx rfl (hb hby at_58)) ?_
      show Go p.tables e below T47 (mkF m 59 #[.val (.int p1), .val (.int p2), .val (.int p3), .val (.int p4), .val (.int (0 : Int32)), .val (.int z4), .val (.ref b6), .val (.ref b47), .unset, .unset, .unset, .unset, .unset, .unset, .unset, .unset] [(.int (1 : Int32)), (.int ((p4.toUInt32 >>> ((5 : Int32) &&& 31).toUInt32).toInt32))]) _
      refine go1 (fun _ => XS.iand X47.here hx rfl (hb hby at_59) rfl) ?_
      show Go p.tables e below T47 (mkF m 60 #[.val (.int p1), .val (.int p2), .val (.int p3), .val (.int p4), .val (.int (0 : Int32)), .val (.int z4), .val (.ref b6), .val (.ref b47), .unset, .unset, .unset, .unset, .unset, .unset, .unset, .unset] [(.int (((p4.toUInt32 >>> ((5 : Int32) &&& 31).toUInt32).toInt32) &&& (1 : Int32)))]) _
      refine go1 (fun _ => XS.iloadN X47.here hx rfl (hb hby at_60) rfl) ?_
      show Go p.tables e below T47 (mkF m 61 #[.val (.int p1), .val (.int p2), .val (.int p3), .val (.int p4), .val (.int (0 : Int32)), .val (.int z4), .val (.ref b6), .val (.ref b47), .unset, .unset, .unset, .unset, .unset, .unset, .unset, .unset] [(.int p3), (.int (((p4.toUInt32 >>> ((5 : Int32) &&& 31).toUInt32).toInt32) &&& (1 : Int32)))]) _
      refine go1 (fun _ => XS.iloadN X47.here hx rfl (hb hby at_61) rfl) ?_
      show Go p.tables e below T47 (mkF m 62 #[.val (.int p1), .val (.int p2), .val (.int p3), .val (.int p4), .val (.int (0 : Int32)), .val (.int z4), .val (.ref b6), .val (.ref b47), .unset, .unset, .unset, .unset, .unset, .unset, .unset, .unset] [(.int p2), (.int p3), (.int (((p4.toUInt32 >>> ((5 : Int32) &&& 31).toUInt32).toInt32) &&& (1 : Int32)))]) _
      obtain ⟨_, _, ⟨T48, L48, k48, n48⟩, -, X48, hq48, hg48, ⟨Lc48, hQ48, l48, y48, z48⟩, st48⟩ := callSS X47 hx (y := (⟨"com/example/enrout/enrout/broker/cli/OptionIsFlagPinLaw", "drawn", "(III)Ljava/lang/String;"⟩ : MethodName)) hown47 (mvT hZ47 (hw _ (List.mem_of_getElem? (i := 0) rfl))) (mvT hZ47 (hw _ (List.mem_of_getElem? (i := 1) rfl))) (mvT hZ47 (hw _ (List.mem_of_getElem? (i := 2) rfl))) (mvT hZ47 (hw _ (List.mem_of_getElem? (i := 3) rfl))) (by decide) (backOfS (W := 0) (rm1 l Z a0 hw [] (((p4.toUInt32 >>> ((5 : Int32) &&& 31).toUInt32).toInt32) &&& (1 : Int32)) p3 p2 a_COMPACT_STRINGS h47 n0 (Nat.le_trans (Nat.le_trans Z0 K5.1) E47.1) ((O0.keep K5 all0).ext E47) S_COMPACT_STRINGS P_a_COMPACT_STRINGS) hZ47 (hw _ (List.mem_of_getElem? (i := 3) rfl)) (hw _ (List.mem_of_getElem? (i := 2) rfl)) (by decide) (by decide)) (g := (mkF m 62 #[.val (.int p1), .val (.int p2), .val (.int p3), .val (.int p4), .val (.int (0 : Int32)), .val (.int z4), .val (.ref b6), .val (.ref b47), .unset, .unset, .unset, .unset, .unset, .unset, .unset, .unset] [(.int p2), (.int p3), (.int (((p4.toUInt32 >>> ((5 : Int32) &&& 31).toUInt32).toInt32) &&& (1 : Int32)))])) rfl (by rw [hml]; rfl) (argsL := [(.int (((p4.toUInt32 >>> ((5 : Int32) &&& 31).toUInt32).toInt32) &&& (1 : Int32))), (.int p3), (.int p2)]) (rest := []) (lenOf pd0_0 rfl) rfl (by show 2 * 0 + _ ≤ _; exact Nat.le_of_eq rfl) (hb hby at_62) (fun _ _ => ⟨rfl, e47, (by decide : 5 + 3 ≤ _), (by decide : 24 + 8 ≤ _)⟩)
      dsimp only [Pt.U, Pt.locs, Pt.cells, Pt.slots] at X48 l48 y48 z48 st48 hQ48 hq48 hg48
      subst l48 y48 z48
      have hS48 : s.Since T48.vm T48.heap.size := foldS (s := s) (vm0 := T47.vm) (T := T47) hS47 (by rw [e47]; exact hk47) hq48 hg48
      have hZ48 : Z.Warmed39 T48.vm := State.Warmed39.trans (t := s.setVm T47.vm) hZ47 hq48.1
      have hown48 : T48.vm.findClass "com/example/enrout/enrout/broker/cli/OptionIsFlagPinLaw" = some m.cls := by
        rw [hq48.1.alike.findClass]; exact hown47
      obtain ⟨b49, rfl, N48q, K48⟩ := hQ48
      have N48 := Fr.app N5 N48q
      refine goT st48 ?_
      show Go p.tables e below T48 (mkF m 65 #[.val (.int p1), .val (.int p2), .val (.int p3), .val (.int p4), .val (.int (0 : Int32)), .val (.int z4), .val (.ref b6), .val (.ref b47), .unset, .unset, .unset, .unset, .unset, .unset, .unset, .unset] [(.ref b49)]) _
      refine go1 (fun _ => XS.astore X48.here hx rfl (hb hby at_65) rfl rfl (l' := #[.val (.int p1), .val (.int p2), .val (.int p3), .val (.int p4), .val (.int (0 : Int32)), .val (.int z4), .val (.ref b6), .val (.ref b47), .val (.ref b49), .unset, .unset, .unset, .unset, .unset, .unset, .unset]) rfl) ?_
      show Go p.tables e below T48 (mkF m 67 #[.val (.int p1), .val (.int p2), .val (.int p3), .val (.int p4), .val (.int (0 : Int32)), .val (.int z4), .val (.ref b6), .val (.ref b47), .val (.ref b49), .unset, .unset, .unset, .unset, .unset, .unset, .unset] []) _
      refine go1 (fun _ => XS.iloadN X48.here hx rfl (hb hby at_67) rfl) ?_
      show Go p.tables e below T48 (mkF m 68 #[.val (.int p1), .val (.int p2), .val (.int p3), .val (.int p4), .val (.int (0 : Int32)), .val (.int z4), .val (.ref b6), .val (.ref b47), .val (.ref b49), .unset, .unset, .unset, .unset, .unset, .unset, .unset] [(.int p4)]) _
      refine go1 (fun _ => XS.bipush X48.here hx rfl (hb hby at_68)) ?_
      show Go p.tables e below T48 (mkF m 70 #[.val (.int p1), .val (.int p2), .val (.int p3), .val (.int p4), .val (.int (0 : Int32)), .val (.int z4), .val (.ref b6), .val (.ref b47), .val (.ref b49), .unset, .unset, .unset, .unset, .unset, .unset, .unset] [(.int (8 : Int32)), (.int p4)]) _
      refine go1 (fun _ => XS.iand X48.here hx rfl (hb hby at_70) rfl) ?_
      show Go p.tables e below T48 (mkF m 71 #[.val (.int p1), .val (.int p2), .val (.int p3), .val (.int p4), .val (.int (0 : Int32)), .val (.int z4), .val (.ref b6), .val (.ref b47), .val (.ref b49), .unset, .unset, .unset, .unset, .unset, .unset, .unset] [(.int (p4 &&& (8 : Int32)))]) _
      by_cases hc50 : (p4 &&& (8 : Int32)) = (0 : Int32)
      · skip
        refine go1 (fun _ => XS.ifYes X48.here hx rfl (pc0 := 71) (pc' := 79) rfl (hb hby at_71) rfl ((if0 _ _).trans (teq hc50).1) (by decide) (by decide)) ?_
        show Go p.tables e below T48 (mkF m 79 #[.val (.int p1), .val (.int p2), .val (.int p3), .val (.int p4), .val (.int (0 : Int32)), .val (.int z4), .val (.ref b6), .val (.ref b47), .val (.ref b49), .unset, .unset, .unset, .unset, .unset, .unset, .unset] []) _
        refine go1 (fun _ => XS.aconstNull X48.here hx rfl (hb hby at_79)) ?_
        show Go p.tables e below T48 (mkF m 80 #[.val (.int p1), .val (.int p2), .val (.int p3), .val (.int p4), .val (.int (0 : Int32)), .val (.int z4), .val (.ref b6), .val (.ref b47), .val (.ref b49), .unset, .unset, .unset, .unset, .unset, .unset, .unset] [.null]) _
        refine go1 (fun _ => XS.astore X48.here hx rfl (hb hby at_80) rfl rfl (l' := #[.val (.int p1), .val (.int p2), .val (.int p3), .val (.int p4), .val (.int (0 : Int32)), .val (.int z4), .val (.ref b6), .val (.ref b47), .val (.ref b49), .val .null, .unset, .unset, .unset, .unset, .unset, .unset]) rfl) ?_
        show Go p.tables e below T48 (mkF m 82 #[.val (.int p1), .val (.int p2), .val (.int p3), .val (.int p4), .val (.int (0 : Int32)), .val (.int z4), .val (.ref b6), .val (.ref b47), .val (.ref b49), .val .null, .unset, .unset, .unset, .unset, .unset, .unset] []) _
        refine go1 (fun _ => XS.iloadN X48.here hx rfl (hb hby at_82) rfl) ?_
        show Go p.tables e below T48 (mkF m 83 #[.val (.int p1), .val (.int p2), .val (.int p3), .val (.int p4), .val (.int (0 : Int32)), .val (.int z4), .val (.ref b6), .val (.ref b47), .val (.ref b49), .val .null, .unset, .unset, .unset, .unset, .unset, .unset] [(.int p4)]) _
        refine go1 (fun _ => XS.iconst X48.here hx rfl (hb hby at_83)) ?_
        show Go p.tables e below T48 (mkF m 84 #[.val (.int p1), .val (.int p2), .val (.int p3), .val (.int p4), .val (.int (0 : Int32)), .val (.int z4), .val (.ref b6), .val (.ref b47), .val (.ref b49), .val .null, .unset, .unset, .unset, .unset, .unset, .unset] [(.int (1 : Int32)), (.int p4)]) _
        refine go1 (fun _ => XS.iand X48.here hx rfl (hb hby at_84) rfl) ?_
        show Go p.tables e below T48 (mkF m 85 #[.val (.int p1), .val (.int p2), .val (.int p3), .val (.int p4), .val (.int (0 : Int32)), .val (.int z4), .val (.ref b6), .val (.ref b47), .val (.ref b49), .val .null, .unset, .unset, .unset, .unset, .unset, .unset] [(.int (p4 &&& (1 : Int32)))]) _
        refine go1 (T' := T48) (g' := (mkF m 93 #[.val (.int p1), .val (.int p2), .val (.int p3), .val (.int p4), .val (.int (0 : Int32)), .val (.int z4), .val (.ref b6), .val (.ref b47), .val (.ref b49), .val .null, .unset, .unset, .unset, .unset, .unset, .unset] [(.int (if (p4 &&& (1 : Int32)) = (0 : Int32) then (0 : Int32) else (1 : Int32)))])) (fun t k => ?_) ?_
        · by_cases hd51 : (p4 &&& (1 : Int32)) = (0 : Int32)
          · skip
            rw [(if_pos hd51 : (if (p4 &&& (1 : Int32)) = (0 : Int32) then (0 : Int32) else (1 : Int32)) = (0 : Int32))] at k
            show Steps p.tables e below (T48.setTop (mkF m 85 #[.val (.int p1), .val (.int p2), .val (.int p3), .val (.int p4), .val (.int (0 : Int32)), .val (.int z4), .val (.ref b6), .val (.ref b47), .val (.ref b49), .val .null, .unset, .unset, .unset, .unset, .unset, .unset] [(.int (p4 &&& (1 : Int32)))])) _
            refine XS.ifYes X48.here hx rfl (pc0 := 85) (pc' := 92) rfl (hb hby at_85) rfl ((if0 _ _).trans (teq hd51).1) (by decide) (by decide) ?_
            show Steps p.tables e below (T48.setTop (mkF m 92 #[.val (.int p1), .val (.int p2), .val (.int p3), .val (.int p4), .val (.int (0 : Int32)), .val (.int z4), .val (.ref b6), .val (.ref b47), .val (.ref b49), .val .null, .unset, .unset, .unset, .unset, .unset, .unset] [])) _
            refine XS.iconst X48.here hx rfl (hb hby at_92) ?_
            show Steps p.tables e below (T48.setTop (mkF m 93 #[.val (.int p1), .val (.int p2), .val (.int p3), .val (.int p4), .val (.int (0 : Int32)), .val (.int z4), .val (.ref b6), .val (.ref b47), .val (.ref b49), .val .null, .unset, .unset, .unset, .unset, .unset, .unset] [(.int (0 : Int32))])) _
            exact k
          · skip
            rw [(if_neg hd51 : (if (p4 &&& (1 : Int32)) = (0 : Int32) then (0 : Int32) else (1 : Int32)) = (1 : Int32))] at k
            show Steps p.tables e below (T48.setTop (mkF m 85 #[.val (.int p1), .val (.int p2), .val (.int p3), .val (.int p4), .val (.int (0 : Int32)), .val (.int z4), .val (.ref b6), .val (.ref b47), .val (.ref b49), .val .null, .unset, .unset, .unset, .unset, .unset, .unset] [(.int (p4 &&& (1 : Int32)))])) _
            refine XS.ifNo X48.here hx rfl (hb hby at_85) rfl ((if0 _ _).trans (feq hd51).1) ?_
            show Steps p.tables e below (T48.setTop (mkF m 88 #[.val (.int p1), .val (.int p2), .val (.int p3), .val (.int p4), .val (.int (0 : Int32)), .val (.int z4), .val (.ref b6), .val (.ref b47), .val (.ref b49), .val .null, .unset, .unset, .unset, .unset, .unset, .unset] [])) _
            refine XS.iconst X48.here hx rfl (hb hby at_88) ?_
            show Steps p.tables e below (T48.setTop (mkF m 89 #[.val (.int p1), .val (.int p2), .val (.int p3), .val (.int p4), .val (.int (0 : Int32)), .val (.int z4), .val (.ref b6), .val (.ref b47), .val (.ref b49), .val .null, .unset, .unset, .unset, .unset, .unset, .unset] [(.int (1 : Int32))])) _
            refine XS.goto X48.here hx rfl (pc0 := 89) (pc' := 93) rfl (hb hby at_89) (by decide) (by decide) ?_
            show Steps p.tables e below (T48.setTop (mkF m 93 #[.val (.int p1), .val (.int p2), .val (.int p3), .val (.int p4), .val (.int (0 : Int32)), .val (.int z4), .val (.ref b6), .val (.ref b47), .val (.ref b49), .val .null, .unset, .unset, .unset, .unset, .unset, .unset] [(.int (1 : Int32))])) _
            exact k
        show Go p.tables e below T48 (mkF m 93 #[.val (.int p1), .val (.int p2), .val (.int p3), .val (.int p4), .val (.int (0 : Int32)), .val (.int z4), .val (.ref b6), .val (.ref b47), .val (.ref b49), .val .null, .unset, .unset, .unset, .unset, .unset, .unset] [(.int (if (p4 &&& (1 : Int32)) = (0 : Int32) then (0 : Int32) else (1 : Int32)))]) _
        obtain ⟨z52, hz52⟩ : ∃ z : Int32, z = (if (p4 &&& (1 : Int32)) = (0 : Int32) then (0 : Int32) else (1 : Int32)) := ⟨_, rfl⟩
        rw [← hz52]
        show Go p.tables e below T48 (mkF m 93 #[.val (.int p1), .val (.int p2), .val (.int p3), .val (.int p4), .val (.int (0 : Int32)), .val (.int z4), .val (.ref b6), .val (.ref b47), .val (.ref b49), .val .null, .unset, .unset, .unset, .unset, .unset, .unset] [(.int z52)]) _
        refine go1 (fun _ => XS.istore X48.here hx rfl (hb hby at_93) rfl (l' := #[.val (.int p1), .val (.int p2), .val (.int p3), .val (.int p4), .val (.int (0 : Int32)), .val (.int z4), .val (.ref b6), .val (.ref b47), .val (.ref b49), .val .null, .val (.int z52), .unset, .unset, .unset, .unset, .unset]) rfl) ?_
        show Go p.tables e below T48 (mkF m 95 #[.val (.int p1), .val (.int p2), .val (.int p3), .val (.int p4), .val (.int (0 : Int32)), .val (.int z4), .val (.ref b6), .val (.ref b47), .val (.ref b49), .val .null, .val (.int z52), .unset, .unset, .unset, .unset, .unset] []) _
        refine go1 (fun _ => XS.iloadN X48.here hx rfl (hb hby at_95) rfl) ?_
        show Go p.tables e below T48 (mkF m 96 #[.val (.int p1), .val (.int p2), .val (.int p3), .val (.int p4), .val (.int (0 : Int32)), .val (.int z4), .val (.ref b6), .val (.ref b47), .val (.ref b49), .val .null, .val (.int z52), .unset, .unset, .unset, .unset, .unset] [(.int p4)]) _
        refine go1 (fun _ => XS.iconst X48.here hx rfl (hb hby at_96)) ?_
        show Go p.tables e below T48 (mkF m 97 #[.val (.int p1), .val (.int p2), .val (.int p3), .val (.int p4), .val (.int (0 : Int32)), .val (.int z4), .val (.ref b6), .val (.ref b47), .val (.ref b49), .val .null, .val (.int z52), .unset, .unset, .unset, .unset, .unset] [(.int (2 : Int32)), (.int p4)]) _
        refine go1 (fun _ => XS.iand X48.here hx rfl (hb hby at_97) rfl) ?_
        show Go p.tables e below T48 (mkF m 98 #[.val (.int p1), .val (.int p2), .val (.int p3), .val (.int p4), .val (.int (0 : Int32)), .val (.int z4), .val (.ref b6), .val (.ref b47), .val (.ref b49), .val .null, .val (.int z52), .unset, .unset, .unset, .unset, .unset] [(.int (p4 &&& (2 : Int32)))]) _
        refine go1 (T' := T48) (g' := (mkF m 106 #[.val (.int p1), .val (.int p2), .val (.int p3), .val (.int p4), .val (.int (0 : Int32)), .val (.int z4), .val (.ref b6), .val (.ref b47), .val (.ref b49), .val .null, .val (.int z52), .unset, .unset, .unset, .unset, .unset] [(.int (if (p4 &&& (2 : Int32)) = (0 : Int32) then (0 : Int32) else (1 : Int32)))])) (fun t k => ?_) ?_
        · by_cases hd53 : (p4 &&& (2 : Int32)) = (0 : Int32)
          · skip
            rw [(if_pos hd53 : (if (p4 &&& (2 : Int32)) = (0 : Int32) then (0 : Int32) else (1 : Int32)) = (0 : Int32))] at k
            show Steps p.tables e below (T48.setTop (mkF m 98 #[.val (.int p1), .val (.int p2), .val (.int p3), .val (.int p4), .val (.int (0 : Int32)), .val (.int z4), .val (.ref b6), .val (.ref b47), .val (.ref b49), .val .null, .val (.int z52), .unset, .unset, .unset, .unset, .unset] [(.int (p4 &&& (2 : Int32)))])) _
            refine XS.ifYes X48.here hx rfl (pc0 := 98) (pc' := 105) rfl (hb hby at_98) rfl ((if0 _ _).trans (teq hd53).1) (by decide) (by decide) ?_
            show Steps p.tables e below (T48.setTop (mkF m 105 #[.val (.int p1), .val (.int p2), .val (.int p3), .val (.int p4), .val (.int (0 : Int32)), .val (.int z4), .val (.ref b6), .val (.ref b47), .val (.ref b49), .val .null, .val (.int z52), .unset, .unset, .unset, .unset, .unset] [])) _
            refine XS.iconst X48.here hx rfl (hb hby at_105) ?_
            show Steps p.tables e below (T48.setTop (mkF m 106 #[.val (.int p1), .val (.int p2), .val (.int p3), .val (.int p4), .val (.int (0 : Int32)), .val (.int z4), .val (.ref b6), .val (.ref b47), .val (.ref b49), .val .null, .val (.int z52), .unset, .unset, .unset, .unset, .unset] [(.int (0 : Int32))])) _
            exact k
          · skip
            rw [(if_neg hd53 : (if (p4 &&& (2 : Int32)) = (0 : Int32) then (0 : Int32) else (1 : Int32)) = (1 : Int32))] at k
            show Steps p.tables e below (T48.setTop (mkF m 98 #[.val (.int p1), .val (.int p2), .val (.int p3), .val (.int p4), .val (.int (0 : Int32)), .val (.int z4), .val (.ref b6), .val (.ref b47), .val (.ref b49), .val .null, .val (.int z52), .unset, .unset, .unset, .unset, .unset] [(.int (p4 &&& (2 : Int32)))])) _
            refine XS.ifNo X48.here hx rfl (hb hby at_98) rfl ((if0 _ _).trans (feq hd53).1) ?_
            show Steps p.tables e below (T48.setTop (mkF m 101 #[.val (.int p1), .val (.int p2), .val (.int p3), .val (.int p4), .val (.int (0 : Int32)), .val (.int z4), .val (.ref b6), .val (.ref b47), .val (.ref b49), .val .null, .val (.int z52), .unset, .unset, .unset, .unset, .unset] [])) _
            refine XS.iconst X48.here hx rfl (hb hby at_101) ?_
            show Steps p.tables e below (T48.setTop (mkF m 102 #[.val (.int p1), .val (.int p2), .val (.int p3), .val (.int p4), .val (.int (0 : Int32)), .val (.int z4), .val (.ref b6), .val (.ref b47), .val (.ref b49), .val .null, .val (.int z52), .unset, .unset, .unset, .unset, .unset] [(.int (1 : Int32))])) _
            refine XS.goto X48.here hx rfl (pc0 := 102) (pc' := 106) rfl (hb hby at_102) (by decide) (by decide) ?_
            show Steps p.tables e below (T48.setTop (mkF m 106 #[.val (.int p1), .val (.int p2), .val (.int p3), .val (.int p4), .val (.int (0 : Int32)), .val (.int z4), .val (.ref b6), .val (.ref b47), .val (.ref b49), .val .null, .val (.int z52), .unset, .unset, .unset, .unset, .unset] [(.int (1 : Int32))])) _
            exact k
        show Go p.tables e below T48 (mkF m 106 #[.val (.int p1), .val (.int p2), .val (.int p3), .val (.int p4), .val (.int (0 : Int32)), .val (.int z4), .val (.ref b6), .val (.ref b47), .val (.ref b49), .val .null, .val (.int z52), .unset, .unset, .unset, .unset, .unset] [(.int (if (p4 &&& (2 : Int32)) = (0 : Int32) then (0 : Int32) else (1 : Int32)))]) _
        obtain ⟨z54, hz54⟩ : ∃ z : Int32, z = (if (p4 &&& (2 : Int32)) = (0 : Int32) then (0 : Int32) else (1 : Int32)) := ⟨_, rfl⟩
        rw [← hz54]
        show Go p.tables e below T48 (mkF m 106 #[.val (.int p1), .val (.int p2), .val (.int p3), .val (.int p4), .val (.int (0 : Int32)), .val (.int z4), .val (.ref b6), .val (.ref b47), .val (.ref b49), .val .null, .val (.int z52), .unset, .unset, .unset, .unset, .unset] [(.int z54)]) _
        refine go1 (fun _ => XS.istore X48.here hx rfl (hb hby at_106) rfl (l' := #[.val (.int p1), .val (.int p2), .val (.int p3), .val (.int p4), .val (.int (0 : Int32)), .val (.int z4), .val (.ref b6), .val (.ref b47), .val (.ref b49), .val .null, .val (.int z52), .val (.int z54), .unset, .unset, .unset, .unset]) rfl) ?_
        show Go p.tables e below T48 (mkF m 108 #[.val (.int p1), .val (.int p2), .val (.int p3), .val (.int p4), .val (.int (0 : Int32)), .val (.int z4), .val (.ref b6), .val (.ref b47), .val (.ref b49), .val .null, .val (.int z52), .val (.int z54), .unset, .unset, .unset, .unset] []) _
        refine go1 (fun _ => XS.iloadN X48.here hx rfl (hb hby at_108) rfl) ?_
        show Go p.tables e below T48 (mkF m 109 #[.val (.int p1), .val (.int p2), .val (.int p3), .val (.int p4), .val (.int (0 : Int32)), .val (.int z4), .val (.ref b6), .val (.ref b47), .val (.ref b49), .val .null, .val (.int z52), .val (.int z54), .unset, .unset, .unset, .unset] [(.int p4)]) _
        refine go1 (fun _ => XS.iconst X48.here hx rfl (hb hby at_109)) ?_
        show Go p.tables e below T48 (mkF m 110 #[.val (.int p1), .val (.int p2), .val (.int p3), .val (.int p4), .val (.int (0 : Int32)), .val (.int z4), .val (.ref b6), .val (.ref b47), .val (.ref b49), .val .null, .val (.int z52), .val (.int z54), .unset, .unset, .unset, .unset] [(.int (4 : Int32)), (.int p4)]) _
        refine go1 (fun _ => XS.iand X48.here hx rfl (hb hby at_110) rfl) ?_
        show Go p.tables e below T48 (mkF m 111 #[.val (.int p1), .val (.int p2), .val (.int p3), .val (.int p4), .val (.int (0 : Int32)), .val (.int z4), .val (.ref b6), .val (.ref b47), .val (.ref b49), .val .null, .val (.int z52), .val (.int z54), .unset, .unset, .unset, .unset] [(.int (p4 &&& (4 : Int32)))]) _
        refine go1 (T' := T48) (g' := (mkF m 119 #[.val (.int p1), .val (.int p2), .val (.int p3), .val (.int p4), .val (.int (0 : Int32)), .val (.int z4), .val (.ref b6), .val (.ref b47), .val (.ref b49), .val .null, .val (.int z52), .val (.int z54), .unset, .unset, .unset, .unset] [(.int (if (p4 &&& (4 : Int32)) = (0 : Int32) then (0 : Int32) else (1 : Int32)))])) (fun t k => ?_) ?_
        · by_cases hd55 : (p4 &&& (4 : Int32)) = (0 : Int32)
          · skip
            rw [(if_pos hd55 : (if (p4 &&& (4 : Int32)) = (0 : Int32) then (0 : Int32) else (1 : Int32)) = (0 : Int32))] at k
            show Steps p.tables e below (T48.setTop (mkF m 111 #[.val (.int p1), .val (.int p2), .val (.int p3), .val (.int p4), .val (.int (0 : Int32)), .val (.int z4), .val (.ref b6), .val (.ref b47), .val (.ref b49), .val .null, .val (.int z52), .val (.int z54), .unset, .unset, .unset, .unset] [(.int (p4 &&& (4 : Int32)))])) _
            refine XS.ifYes X48.here hx rfl (pc0 := 111) (pc' := 118) rfl (hb hby at_111) rfl ((if0 _ _).trans (teq hd55).1) (by decide) (by decide) ?_
            show Steps p.tables e below (T48.setTop (mkF m 118 #[.val (.int p1), .val (.int p2), .val (.int p3), .val (.int p4), .val (.int (0 : Int32)), .val (.int z4), .val (.ref b6), .val (.ref b47), .val (.ref b49), .val .null, .val (.int z52), .val (.int z54), .unset, .unset, .unset, .unset] [])) _
            refine XS.iconst X48.here hx rfl (hb hby at_118) ?_
            show Steps p.tables e below (T48.setTop (mkF m 119 #[.val (.int p1), .val (.int p2), .val (.int p3), .val (.int p4), .val (.int (0 : Int32)), .val (.int z4), .val (.ref b6), .val (.ref b47), .val (.ref b49), .val .null, .val (.int z52), .val (.int z54), .unset, .unset, .unset, .unset] [(.int (0 : Int32))])) _
            exact k
          · skip
            rw [(if_neg hd55 : (if (p4 &&& (4 : Int32)) = (0 : Int32) then (0 : Int32) else (1 : Int32)) = (1 : Int32))] at k
            show Steps p.tables e below (T48.setTop (mkF m 111 #[.val (.int p1), .val (.int p2), .val (.int p3), .val (.int p4), .val (.int (0 : Int32)), .val (.int z4), .val (.ref b6), .val (.ref b47), .val (.ref b49), .val .null, .val (.int z52), .val (.int z54), .unset, .unset, .unset, .unset] [(.int (p4 &&& (4 : Int32)))])) _
            refine XS.ifNo X48.here hx rfl (hb hby at_111) rfl ((if0 _ _).trans (feq hd55).1) ?_
            show Steps p.tables e below (T48.setTop (mkF m 114 #[.val (.int p1), .val (.int p2), .val (.int p3), .val (.int p4), .val (.int (0 : Int32)), .val (.int z4), .val (.ref b6), .val (.ref b47), .val (.ref b49), .val .null, .val (.int z52), .val (.int z54), .unset, .unset, .unset, .unset] [])) _
            refine XS.iconst X48.here hx rfl (hb hby at_114) ?_
            show Steps p.tables e below (T48.setTop (mkF m 115 #[.val (.int p1), .val (.int p2), .val (.int p3), .val (.int p4), .val (.int (0 : Int32)), .val (.int z4), .val (.ref b6), .val (.ref b47), .val (.ref b49), .val .null, .val (.int z52), .val (.int z54), .unset, .unset, .unset, .unset] [(.int (1 : Int32))])) _
            refine XS.goto X48.here hx rfl (pc0 := 115) (pc' := 119) rfl (hb hby at_115) (by decide) (by decide) ?_
            show Steps p.tables e below (T48.setTop (mkF m 119 #[.val (.int p1), .val (.int p2), .val (.int p3), .val (.int p4), .val (.int (0 : Int32)), .val (.int z4), .val (.ref b6), .val (.ref b47), .val (.ref b49), .val .null, .val (.int z52), .val (.int z54), .unset, .unset, .unset, .unset] [(.int (1 : Int32))])) _
            exact k
        show Go p.tables e below T48 (mkF m 119 #[.val (.int p1), .val (.int p2), .val (.int p3), .val (.int p4), .val (.int (0 : Int32)), .val (.int z4), .val (.ref b6), .val (.ref b47), .val (.ref b49), .val .null, .val (.int z52), .val (.int z54), .unset, .unset, .unset, .unset] [(.int (if (p4 &&& (4 : Int32)) = (0 : Int32) then (0 : Int32) else (1 : Int32)))]) _
        obtain ⟨z56, hz56⟩ : ∃ z : Int32, z = (if (p4 &&& (4 : Int32)) = (0 : Int32) then (0 : Int32) else (1 : Int32)) := ⟨_, rfl⟩
        rw [← hz56]
        show Go p.tables e below T48 (mkF m 119 #[.val (.int p1), .val (.int p2), .val (.int p3), .val (.int p4), .val (.int (0 : Int32)), .val (.int z4), .val (.ref b6), .val (.ref b47), .val (.ref b49), .val .null, .val (.int z52), .val (.int z54), .unset, .unset, .unset, .unset] [(.int z56)]) _
        refine go1 (fun _ => XS.istore X48.here hx rfl (hb hby at_119) rfl (l' := #[.val (.int p1), .val (.int p2), .val (.int p3), .val (.int p4), .val (.int (0 : Int32)), .val (.int z4), .val (.ref b6), .val (.ref b47), .val (.ref b49), .val .null, .val (.int z52), .val (.int z54), .val (.int z56), .unset, .unset, .unset]) rfl) ?_
        show Go p.tables e below T48 (mkF m 121 #[.val (.int p1), .val (.int p2), .val (.int p3), .val (.int p4), .val (.int (0 : Int32)), .val (.int z4), .val (.ref b6), .val (.ref b47), .val (.ref b49), .val .null, .val (.int z52), .val (.int z54), .val (.int z56), .unset, .unset, .unset] []) _
        refine go1 (fun _ => XS.iload X48.here hx rfl (hb hby at_121) rfl) ?_
        show Go p.tables e below T48 (mkF m 123 #[.val (.int p1), .val (.int p2), .val (.int p3), .val (.int p4), .val (.int (0 : Int32)), .val (.int z4), .val (.ref b6), .val (.ref b47), .val (.ref b49), .val .null, .val (.int z52), .val (.int z54), .val (.int z56), .unset, .unset, .unset] [(.int (0 : Int32))]) _
        refine go1 (fun _ => XS.ifYes X48.here hx rfl (pc0 := 123) (pc' := 131) rfl (hb hby at_123) rfl ((if0 _ _).trans (teq (by decide : (0 : Int32) = (0 : Int32))).1) (by decide) (by decide)) ?_
        show Go p.tables e below T48 (mkF m 131 #[.val (.int p1), .val (.int p2), .val (.int p3), .val (.int p4), .val (.int (0 : Int32)), .val (.int z4), .val (.ref b6), .val (.ref b47), .val (.ref b49), .val .null, .val (.int z52), .val (.int z54), .val (.int z56), .unset, .unset, .unset] []) _
        refine go1 (fun _ => XS.aconstNull X48.here hx rfl (hb hby at_131)) ?_
        show Go p.tables e below T48 (mkF m 132 #[.val (.int p1), .val (.int p2), .val (.int p3), .val (.int p4), .val (.int (0 : Int32)), .val (.int z4), .val (.ref b6), .val (.ref b47), .val (.ref b49), .val .null, .val (.int z52), .val (.int z54), .val (.int z56), .unset, .unset, .unset] [.null]) _
        refine go1 (fun _ => XS.astore X48.here hx rfl (hb hby at_132) rfl rfl (l' := #[.val (.int p1), .val (.int p2), .val (.int p3), .val (.int p4), .val (.int (0 : Int32)), .val (.int z4), .val (.ref b6), .val (.ref b47), .val (.ref b49), .val .null, .val (.int z52), .val (.int z54), .val (.int z56), .val .null, .unset, .unset]) rfl) ?_
        show Go p.tables e below T48 (mkF m 134 #[.val (.int p1), .val (.int p2), .val (.int p3), .val (.int p4), .val (.int (0 : Int32)), .val (.int z4), .val (.ref b6), .val (.ref b47), .val (.ref b49), .val .null, .val (.int z52), .val (.int z54), .val (.int z56), .val .null, .unset, .unset] []) _
        obtain ⟨T57, h57, X57, e57, E57, A57, D57, -, st57⟩ := newO X48 hx hZ48 hown48 (hw _ (List.mem_of_getElem? (i := 12) rfl)) (hw _ (List.mem_of_getElem? (i := 13) rfl)) (hw _ (List.mem_of_getElem? (i := 14) rfl)) rfl (g := (mkF m 134 #[.val (.int p1), .val (.int p2), .val (.int p3), .val (.int p4), .val (.int (0 : Int32)), .val (.int z4), .val (.ref b6), .val (.ref b47), .val (.ref b49), .val .null, .val (.int z52), .val (.int z54), .val (.int z56), .val .null, .unset, .unset] [])) rfl (hb hby at_134) (by decide) (by decide)
        obtain ⟨b57, g57⟩ : ∃ z, z = T48.heap.size := ⟨_, rfl⟩
        rw [← g57] at A57 D57 st57
        have g_b57 : n0 ≤ b57 := Nat.le_trans (Nat.le_trans (Nat.le_trans (Nat.le_trans Z0 K5.1) E47.1) K48.1) (Nat.le_of_eq g57.symm)
        have F_name_b57 : Fld Z h57 b57 "com/example/enrout/enrout/broker/cli/Option" "name" "Ljava/lang/String;" .null := D57 (Or.inr (hw _ (List.mem_of_getElem? (i := 27) rfl))) (ty := (.object "java/lang/String")) (by decide)
        have F_value_b57 : Fld Z h57 b57 "com/example/enrout/enrout/broker/cli/Option" "value" "Ljava/lang/String;" .null := D57 (Or.inr (hw _ (List.mem_of_getElem? (i := 29) rfl))) (ty := (.object "java/lang/String")) (by decide)
        have F_help_b57 : Fld Z h57 b57 "com/example/enrout/enrout/broker/cli/Option" "help" "Ljava/lang/String;" .null := D57 (Or.inr (hw _ (List.mem_of_getElem? (i := 31) rfl))) (ty := (.object "java/lang/String")) (by decide)
        have F_defaultValue_b57 : Fld Z h57 b57 "com/example/enrout/enrout/broker/cli/Option" "defaultValue" "Ljava/lang/String;" .null := D57 (Or.inr (hw _ (List.mem_of_getElem? (i := 33) rfl))) (ty := (.object "java/lang/String")) (by decide)
        have F_required_b57 : Fld Z h57 b57 "com/example/enrout/enrout/broker/cli/Option" "required" "Z" (.int (0 : Int32)) := D57 (Or.inr (hw _ (List.mem_of_getElem? (i := 35) rfl))) (ty := .boolean) (by decide)
        have F_repeatable_b57 : Fld Z h57 b57 "com/example/enrout/enrout/broker/cli/Option" "repeatable" "Z" (.int (0 : Int32)) := D57 (Or.inr (hw _ (List.mem_of_getElem? (i := 37) rfl))) (ty := .boolean) (by decide)
        have F_several_b57 : Fld Z h57 b57 "com/example/enrout/enrout/broker/cli/Option" "several" "Z" (.int (0 : Int32)) := D57 (Or.inr (hw _ (List.mem_of_getElem? (i := 39) rfl))) (ty := .boolean) (by decide)
        refine go1 st57 ?_
        show Go p.tables e below T57 (mkF m 137 #[.val (.int p1), .val (.int p2), .val (.int p3), .val (.int p4), .val (.int (0 : Int32)), .val (.int z4), .val (.ref b6), .val (.ref b47), .val (.ref b49), .val .null, .val (.int z52), .val (.int z54), .val (.int z56), .val .null, .unset, .unset] [(.ref b57)]) _
        refine go1 (fun _ => XS.dup X57.here hx rfl (hb hby at_137) rfl rfl) ?_
        show Go p.tables e below T57 (mkF m 138 #[.val (.int p1), .val (.int p2), .val (.int p3), .val (.int p4), .val (.int (0 : Int32)), .val (.int z4), .val (.ref b6), .val (.ref b47), .val (.ref b49), .val .null, .val (.int z52), .val (.int z54), .val (.int z56), .val .null, .unset, .unset] [(.ref b57), (.ref b57)]) _
        refine go1 (fun _ => XS.aload X57.here hx rfl (hb hby at_138) rfl rfl) ?_
        show Go p.tables e below T57 (mkF m 140 #[.val (.int p1), .val (.int p2), .val (.int p3), .val (.int p4), .val (.int (0 : Int32)), .val (.int z4), .val (.ref b6), .val (.ref b47), .val (.ref b49), .val .null, .val (.int z52), .val (.int z54), .val (.int z56), .val .null, .unset, .unset] [(.ref b47), (.ref b57), (.ref b57)]) _
        refine go1 (fun _ => XS.aload X57.here hx rfl (hb hby at_140) rfl rfl) ?_
        show Go p.tables e below T57 (mkF m 142 #[.val (.int p1), .val (.int p2), .val (.int p3), .val (.int p4), .val (.int (0 : Int32)), .val (.int z4), .val (.ref b6), .val (.ref b47), .val (.ref b49), .val .null, .val (.int z52), .val (.int z54), .val (.int z56), .val .null, .unset, .unset] [.null, (.ref b47), (.ref b57), (.ref b57)]) _
        refine go1 (fun _ => XS.aload X57.here hx rfl (hb hby at_142) rfl rfl) ?_
        show Go p.tables e below T57 (mkF m 144 #[.val (.int p1), .val (.int p2), .val (.int p3), .val (.int p4), .val (.int (0 : Int32)), .val (.int z4), .val (.ref b6), .val (.ref b47), .val (.ref b49), .val .null, .val (.int z52), .val (.int z54), .val (.int z56), .val .null, .unset, .unset] [(.ref b49), .null, (.ref b47), (.ref b57), (.ref b57)]) _
        refine go1 (fun _ => XS.aload X57.here hx rfl (hb hby at_144) rfl rfl) ?_
        show Go p.tables e below T57 (mkF m 146 #[.val (.int p1), .val (.int p2), .val (.int p3), .val (.int p4), .val (.int (0 : Int32)), .val (.int z4), .val (.ref b6), .val (.ref b47), .val (.ref b49), .val .null, .val (.int z52), .val (.int z54), .val (.int z56), .val .null, .unset, .unset] [.null, (.ref b49), .null, (.ref b47), (.ref b57), (.ref b57)]) _
        refine go1 (fun _ => XS.iload X57.here hx rfl (hb hby at_146) rfl) ?_
        show Go p.tables e below T57 (mkF m 148 #[.val (.int p1), .val (.int p2), .val (.int p3), .val (.int p4), .val (.int (0 : Int32)), .val (.int z4), .val (.ref b6), .val (.ref b47), .val (.ref b49), .val .null, .val (.int z52), .val (.int z54), .val (.int z56), .val .null, .unset, .unset] [(.int z52), .null, (.ref b49), .null, (.ref b47), (.ref b57), (.ref b57)]) _
        refine go1 (fun _ => XS.iload X57.here hx rfl (hb hby at_148) rfl) ?_
        show Go p.tables e below T57 (mkF m 150 #[.val (.int p1), .val (.int p2), .val (.int p3), .val (.int p4), .val (.int (0 : Int32)), .val (.int z4), .val (.ref b6), .val (.ref b47), .val (.ref b49), .val .null, .val (.int z52), .val (.int z54), .val (.int z56), .val .null, .unset, .unset] [(.int z54), (.int z52), .null, (.ref b49), .null, (.ref b47), (.ref b57), (.ref b57)]) _
        refine go1 (fun _ => XS.iload X57.here hx rfl (hb hby at_150) rfl) ?_
        show Go p.tables e below T57 (mkF m 152 #[.val (.int p1), .val (.int p2), .val (.int p3), .val (.int p4), .val (.int (0 : Int32)), .val (.int z4), .val (.ref b6), .val (.ref b47), .val (.ref b49), .val .null, .val (.int z52), .val (.int z54), .val (.int z56), .val .null, .unset, .unset] [(.int z56), (.int z54), (.int z52), .null, (.ref b49), .null, (.ref b47), (.ref b57), (.ref b57)]) _
        obtain ⟨_, _, ⟨T58, L58, k58, n58⟩, -, X58, ⟨Lc58, hQ58, l58, y58, z58⟩, st58⟩ := X57.specialBack hx (y := (⟨"com/example/enrout/enrout/broker/cli/Option", "<init>", "(Ljava/lang/String;Ljava/lang/String;Ljava/lang/String;Ljava/lang/String;ZZZ)V"⟩ : MethodName)) rfl hown48 (mvT hZ48 (hw _ (List.mem_of_getElem? (i := 15) rfl))) (mvT hZ48 (hw _ (List.mem_of_getElem? (i := 16) rfl))) (mvT hZ48 (hw _ (List.mem_of_getElem? (i := 17) rfl))) (by decide) (backOf (W := 1) (rm2 l Z a0 hw [] b57 (.ref b47) .null (.ref b49) .null z52 z54 z56 h57 n0 (Nat.le_trans (Nat.le_trans (Nat.le_trans (Nat.le_trans Z0 K5.1) E47.1) K48.1) E57.1) F_name_b57 F_value_b57 F_help_b57 F_defaultValue_b57 F_required_b57 F_repeatable_b57 F_several_b57 A57 g_b57 (by first | assumption | decide | rfl) (by first | assumption | decide | rfl) (by first | assumption | decide | rfl) (by first | assumption | decide | rfl)) hZ48 (hw _ (List.mem_of_getElem? (i := 17) rfl)) (hw _ (List.mem_of_getElem? (i := 14) rfl)) (by decide) (by decide)) (g := (mkF m 152 #[.val (.int p1), .val (.int p2), .val (.int p3), .val (.int p4), .val (.int (0 : Int32)), .val (.int z4), .val (.ref b6), .val (.ref b47), .val (.ref b49), .val .null, .val (.int z52), .val (.int z54), .val (.int z56), .val .null, .unset, .unset] [(.int z56), (.int z54), (.int z52), .null, (.ref b49), .null, (.ref b47), (.ref b57), (.ref b57)])) rfl (by rw [hml]; rfl) (Steps.refl _) (a := b57) (argsL := [(.ref b47), .null, (.ref b49), .null, (.int z52), (.int z54), (.int z56)]) (rest := [(.ref b57)]) (lenOf pd0_1 rfl) rfl (by show 2 * 0 + _ ≤ _; exact Nat.le_of_eq rfl) (hb hby at_152) (fun _ _ => ⟨rfl, e57, (by decide : 9 + 0 ≤ _), (by decide : 39 + 0 ≤ _)⟩)
        dsimp only [Pt.U, Pt.locs, Pt.cells, Pt.slots] at X58 l58 y58 z58 st58 hQ58
        subst l58 y58 z58
        obtain ⟨rfl, N58q, K58, G58_0, G58_1⟩ := hQ58
        have N58 := Fr.app N48 N58q
        refine goT st58 ?_
        show Go p.tables e below T58 (mkF m 155 #[.val (.int p1), .val (.int p2), .val (.int p3), .val (.int p4), .val (.int (0 : Int32)), .val (.int z4), .val (.ref b6), .val (.ref b47), .val (.ref b49), .val .null, .val (.int z52), .val (.int z54), .val (.int z56), .val .null, .unset, .unset] [(.ref b57)]) _
        refine go1 (fun _ => XS.astore X58.here hx rfl (hb hby at_155) rfl rfl (l' := #[.val (.int p1), .val (.int p2), .val (.int p3), .val (.int p4), .val (.int (0 : Int32)), .val (.int z4), .val (.ref b6), .val (.ref b47), .val (.ref b49), .val .null, .val (.int z52), .val (.int z54), .val (.int z56), .val .null, .val (.ref b57), .unset]) rfl) ?_
        show Go p.tables e below T58 (mkF m 157 #[.val (.int p1), .val (.int p2), .val (.int p3), .val (.int p4), .val (.int (0 : Int32)), .val (.int z4), .val (.ref b6), .val (.ref b47), .val (.ref b49), .val .null, .val (.int z52), .val (.int z54), .val (.int z56), .val .null, .val (.ref b57), .unset] []) _
        refine go1 (fun _ => XS.aload X58.here hx rfl (hb hby at_157) rfl rfl) ?_
        show Go p.tables e below T58 (mkF m 159 #[.val (.int p1), .val (.int p2), .val (.int p3), .val (.int p4), .val (.int (0 : Int32)), .val (.int z4), .val (.ref b6), .val (.ref b47), .val (.ref b49), .val .null, .val (.int z52), .val (.int z54), .val (.int z56), .val .null, .val (.ref b57), .unset] [(.ref b57)]) _
        obtain ⟨cq59, kq59, q59a, q59b, q59c⟩ := isOf hZ48 rfl G58_0
        obtain ⟨_, _, ⟨T59, L59, k59, n59⟩, -, X59, ⟨Lc59, hQ59, l59, y59, z59⟩, st59⟩ := X58.virtualBack hx (y := (⟨"com/example/enrout/enrout/broker/cli/Option", "isFlag", "()Z"⟩ : MethodName)) (z := (⟨"com/example/enrout/enrout/broker/cli/Option", "isFlag", "()Z"⟩ : MethodName)) hown48 (mvT hZ48 (hw _ (List.mem_of_getElem? (i := 40) rfl))) (mvT hZ48 (hw _ (List.mem_of_getElem? (i := 41) rfl))) (notFace_of_selects (args := #[]) (mvT hZ48 (hw _ (List.mem_of_getElem? (i := 43) rfl)))) (mvT hZ48 (hw _ (List.mem_of_getElem? (i := 43) rfl))) (mvT hZ48 (hw _ (List.mem_of_getElem? (i := 42) rfl))) (by decide) (backOf (W := 0) (rmisa l Z a0 hw [] b57 T58.heap n0 (Nat.le_trans (Nat.le_trans (Nat.le_trans (Nat.le_trans (Nat.le_trans Z0 K5.1) E47.1) K48.1) E57.1) K58.1) G58_1) hZ48 (hw _ (List.mem_of_getElem? (i := 44) rfl)) (hw _ (List.mem_of_getElem? (i := 14) rfl)) (by decide) (by decide)) q59a q59c (g := (mkF m 159 #[.val (.int p1), .val (.int p2), .val (.int p3), .val (.int p4), .val (.int (0 : Int32)), .val (.int z4), .val (.ref b6), .val (.ref b47), .val (.ref b49), .val .null, .val (.int z52), .val (.int z54), .val (.int z56), .val .null, .val (.ref b57), .unset] [(.ref b57)])) rfl (by rw [hml]; rfl) (Steps.refl _) (argsL := []) (rest := []) (lenOf pd0_2 rfl) rfl (by show 2 * 0 + _ ≤ _; exact Nat.le_of_eq rfl) (hb hby at_159) (fun _ _ => ⟨rfl, rfl, (by decide : 9 + 0 ≤ _), (by decide : 39 + 0 ≤ _)⟩)
        dsimp only [Pt.U, Pt.locs, Pt.cells, Pt.slots] at X59 l59 y59 z59 st59 hQ59
        subst l59 y59 z59
        obtain ⟨rfl, N59q, e59⟩ := hQ59
        have N59 := Fr.app N58 N59q
        refine goT st59 ?_
        show Go p.tables e below T59 (mkF m 162 #[.val (.int p1), .val (.int p2), .val (.int p3), .val (.int p4), .val (.int (0 : Int32)), .val (.int z4), .val (.ref b6), .val (.ref b47), .val (.ref b49), .val .null, .val (.int z52), .val (.int z54), .val (.int z56), .val .null, .val (.ref b57), .unset] [(.int (1 : Int32))]) _
        refine go1 (fun _ => XS.iload X59.here hx rfl (hb hby at_162) rfl) ?_
        show Go p.tables e below T59 (mkF m 164 #[.val (.int p1), .val (.int p2), .val (.int p3), .val (.int p4), .val (.int (0 : Int32)), .val (.int z4), .val (.ref b6), .val (.ref b47), .val (.ref b49), .val .null, .val (.int z52), .val (.int z54), .val (.int z56), .val .null, .val (.ref b57), .unset] [(.int (0 : Int32)), (.int (1 : Int32))]) _
        refine go1 (fun _ => XS.ifNo X59.here hx rfl (hb hby at_164) rfl ((if0 _ _).trans (teq (by decide : (0 : Int32) = (0 : Int32))).2)) ?_
        show Go p.tables e below T59 (mkF m 167 #[.val (.int p1), .val (.int p2), .val (.int p3), .val (.int p4), .val (.int (0 : Int32)), .val (.int z4), .val (.ref b6), .val (.ref b47), .val (.ref b49), .val .null, .val (.int z52), .val (.int z54), .val (.int z56), .val .null, .val (.ref b57), .unset] [(.int (1 : Int32))]) _
        refine go1 (fun _ => XS.iconst X59.here hx rfl (hb hby at_167)) ?_
        show Go p.tables e below T59 (mkF m 168 #[.val (.int p1), .val (.int p2), .val (.int p3), .val (.int p4), .val (.int (0 : Int32)), .val (.int z4), .val (.ref b6), .val (.ref b47), .val (.ref b49), .val .null, .val (.int z52), .val (.int z54), .val (.int z56), .val .null, .val (.ref b57), .unset] [(.int (1 : Int32)), (.int (1 : Int32))]) _
        refine go1 (fun _ => XS.goto X59.here hx rfl (pc0 := 168) (pc' := 172) rfl (hb hby at_168) (by decide) (by decide)) ?_
        show Go p.tables e below T59 (mkF m 172 #[.val (.int p1), .val (.int p2), .val (.int p3), .val (.int p4), .val (.int (0 : Int32)), .val (.int z4), .val (.ref b6), .val (.ref b47), .val (.ref b49), .val .null, .val (.int z52), .val (.int z54), .val (.int z56), .val .null, .val (.ref b57), .unset] [(.int (1 : Int32)), (.int (1 : Int32))]) _
        refine go1 (fun _ => XS.icmpNo X59.here hx rfl (hb hby at_172) rfl (teq (by decide : (1 : Int32) = (1 : Int32))).2) ?_
        show Go p.tables e below T59 (mkF m 175 #[.val (.int p1), .val (.int p2), .val (.int p3), .val (.int p4), .val (.int (0 : Int32)), .val (.int z4), .val (.ref b6), .val (.ref b47), .val (.ref b49), .val .null, .val (.int z52), .val (.int z54), .val (.int z56), .val .null, .val (.ref b57), .unset] []) _
        refine go1 (fun _ => XS.iconst X59.here hx rfl (hb hby at_175)) ?_
        show Go p.tables e below T59 (mkF m 176 #[.val (.int p1), .val (.int p2), .val (.int p3), .val (.int p4), .val (.int (0 : Int32)), .val (.int z4), .val (.ref b6), .val (.ref b47), .val (.ref b49), .val .null, .val (.int z52), .val (.int z54), .val (.int z56), .val .null, .val (.ref b57), .unset] [(.int (1 : Int32))]) _
        refine go1 (fun _ => XS.goto X59.here hx rfl (pc0 := 176) (pc' := 180) rfl (hb hby at_176) (by decide) (by decide)) ?_
        show Go p.tables e below T59 (mkF m 180 #[.val (.int p1), .val (.int p2), .val (.int p3), .val (.int p4), .val (.int (0 : Int32)), .val (.int z4), .val (.ref b6), .val (.ref b47), .val (.ref b49), .val .null, .val (.int z52), .val (.int z54), .val (.int z56), .val .null, .val (.ref b57), .unset] [(.int (1 : Int32))]) _
        refine go1 (fun _ => XS.istore X59.here hx rfl (hb hby at_180) rfl (l' := #[.val (.int p1), .val (.int p2), .val (.int p3), .val (.int p4), .val (.int (0 : Int32)), .val (.int z4), .val (.ref b6), .val (.ref b47), .val (.ref b49), .val .null, .val (.int z52), .val (.int z54), .val (.int z56), .val .null, .val (.ref b57), .val (.int (1 : Int32))]) rfl) ?_
        show Go p.tables e below T59 (mkF m 182 #[.val (.int p1), .val (.int p2), .val (.int p3), .val (.int p4), .val (.int (0 : Int32)), .val (.int z4), .val (.ref b6), .val (.ref b47), .val (.ref b49), .val .null, .val (.int z52), .val (.int z54), .val (.int z56), .val .null, .val (.ref b57), .val (.int (1 : Int32))] []) _
        refine go1 (fun _ => XS.iload X59.here hx rfl (hb hby at_182) rfl) ?_
        show Go p.tables e below T59 (mkF m 184 #[.val (.int p1), .val (.int p2), .val (.int p3), .val (.int p4), .val (.int (0 : Int32)), .val (.int z4), .val (.ref b6), .val (.ref b47), .val (.ref b49), .val .null, .val (.int z52), .val (.int z54), .val (.int z56), .val .null, .val (.ref b57), .val (.int (1 : Int32))] [(.int (1 : Int32))]) _
        refine go1 (fun _ => XS.ifNo X59.here hx rfl (hb hby at_184) rfl ((if0 _ _).trans (feq (by decide : ¬ ((1 : Int32) = (0 : Int32)))).1)) ?_
        show Go p.tables e below T59 (mkF m 187 #[.val (.int p1), .val (.int p2), .val (.int p3), .val (.int p4), .val (.int (0 : Int32)), .val (.int z4), .val (.ref b6), .val (.ref b47), .val (.ref b49), .val .null, .val (.int z52), .val (.int z54), .val (.int z56), .val .null, .val (.ref b57), .val (.int (1 : Int32))] []) _
        refine go1 (fun _ => XS.aload X59.here hx rfl (hb hby at_187) rfl rfl) ?_
        show Go p.tables e below T59 (mkF m 189 #[.val (.int p1), .val (.int p2), .val (.int p3), .val (.int p4), .val (.int (0 : Int32)), .val (.int z4), .val (.ref b6), .val (.ref b47), .val (.ref b49), .val .null, .val (.int z52), .val (.int z54), .val (.int z56), .val .null, .val (.ref b57), .val (.int (1 : Int32))] [(.ref b47)]) _
        refine go1 (fun _ => XS.aload X59.here hx rfl (hb hby at_189) rfl rfl) ?_
        show Go p.tables e below T59 (mkF m 191 #[.val (.int p1), .val (.int p2), .val (.int p3), .val (.int p4), .val (.int (0 : Int32)), .val (.int z4), .val (.ref b6), .val (.ref b47), .val (.ref b49), .val .null, .val (.int z52), .val (.int z54), .val (.int z56), .val .null, .val (.ref b57), .val (.int (1 : Int32))] [(.ref b49), (.ref b47)]) _
        obtain ⟨_, _, ⟨T60, L60, k60, n60⟩, -, X60, ⟨Lc60, hQ60, l60, y60, z60⟩, st60⟩ := Jvm.LawKit.callS X59 hx (y := (⟨"com/example/enrout/enrout/broker/cli/Option", "flag", "(Ljava/lang/String;Ljava/lang/String;)Lcom/example/enrout/enrout/broker/cli/Option;"⟩ : MethodName)) hown48 (mvT hZ48 (hw _ (List.mem_of_getElem? (i := 45) rfl))) (mvT hZ48 (hw _ (List.mem_of_getElem? (i := 46) rfl))) (mvT hZ48 (hw _ (List.mem_of_getElem? (i := 14) rfl))) (mvT hZ48 (hw _ (List.mem_of_getElem? (i := 47) rfl))) (by decide) (backOf (W := 0) (rm6 l Z a0 hw [] b47 b49 T58.heap n0 (Nat.le_trans (Nat.le_trans (Nat.le_trans (Nat.le_trans (Nat.le_trans Z0 K5.1) E47.1) K48.1) E57.1) K58.1) ) hZ48 (hw _ (List.mem_of_getElem? (i := 47) rfl)) (hw _ (List.mem_of_getElem? (i := 14) rfl)) (by decide) (by decide)) (g := (mkF m 191 #[.val (.int p1), .val (.int p2), .val (.int p3), .val (.int p4), .val (.int (0 : Int32)), .val (.int z4), .val (.ref b6), .val (.ref b47), .val (.ref b49), .val .null, .val (.int z52), .val (.int z54), .val (.int z56), .val .null, .val (.ref b57), .val (.int (1 : Int32))] [(.ref b49), (.ref b47)])) rfl (by rw [hml]; rfl) (argsL := [(.ref b47), (.ref b49)]) (rest := []) (lenOf pd0_3 rfl) rfl (by show 2 * 0 + _ ≤ _; exact Nat.le_of_eq rfl) (hb hby at_191) (fun _ _ => ⟨rfl, e59, (by decide : 9 + 1 ≤ _), (by decide : 39 + 7 ≤ _)⟩)
        dsimp only [Pt.U, Pt.locs, Pt.cells, Pt.slots] at X60 l60 y60 z60 st60 hQ60
        subst l60 y60 z60
        obtain ⟨b61, rfl, N60q, K60, G60_0, G60_1⟩ := hQ60
        have N60 := Fr.app N59 N60q
        refine go1 st60 ?_
        show Go p.tables e below T60 (mkF m 194 #[.val (.int p1), .val (.int p2), .val (.int p3), .val (.int p4), .val (.int (0 : Int32)), .val (.int z4), .val (.ref b6), .val (.ref b47), .val (.ref b49), .val .null, .val (.int z52), .val (.int z54), .val (.int z56), .val .null, .val (.ref b57), .val (.int (1 : Int32))] [(.ref b61)]) _
        obtain ⟨cq62, kq62, q62a, q62b, q62c⟩ := isOf hZ48 rfl G60_0
        obtain ⟨_, _, ⟨T62, L62, k62, n62⟩, -, X62, ⟨Lc62, hQ62, l62, y62, z62⟩, st62⟩ := X60.virtualBack hx (y := (⟨"com/example/enrout/enrout/broker/cli/Option", "isFlag", "()Z"⟩ : MethodName)) (z := (⟨"com/example/enrout/enrout/broker/cli/Option", "isFlag", "()Z"⟩ : MethodName)) hown48 (mvT hZ48 (hw _ (List.mem_of_getElem? (i := 40) rfl))) (mvT hZ48 (hw _ (List.mem_of_getElem? (i := 41) rfl))) (notFace_of_selects (args := #[]) (mvT hZ48 (hw _ (List.mem_of_getElem? (i := 43) rfl)))) (mvT hZ48 (hw _ (List.mem_of_getElem? (i := 43) rfl))) (mvT hZ48 (hw _ (List.mem_of_getElem? (i := 42) rfl))) (by decide) (backOf (W := 0) (rmisa l Z a0 hw [] b61 T60.heap n0 (Nat.le_trans (Nat.le_trans (Nat.le_trans (Nat.le_trans (Nat.le_trans (Nat.le_trans Z0 K5.1) E47.1) K48.1) E57.1) K58.1) K60.1) G60_1) hZ48 (hw _ (List.mem_of_getElem? (i := 44) rfl)) (hw _ (List.mem_of_getElem? (i := 14) rfl)) (by decide) (by decide)) q62a q62c (g := (mkF m 194 #[.val (.int p1), .val (.int p2), .val (.int p3), .val (.int p4), .val (.int (0 : Int32)), .val (.int z4), .val (.ref b6), .val (.ref b47), .val (.ref b49), .val .null, .val (.int z52), .val (.int z54), .val (.int z56), .val .null, .val (.ref b57), .val (.int (1 : Int32))] [(.ref b61)])) rfl (by rw [hml]; rfl) (Steps.refl _) (argsL := []) (rest := []) (lenOf pd0_2 rfl) rfl (by show 2 * 0 + _ ≤ _; exact Nat.le_of_eq rfl) (hb hby at_194) (fun _ _ => ⟨rfl, rfl, (by decide : 10 + 0 ≤ _), (by decide : 46 + 0 ≤ _)⟩)
        dsimp only [Pt.U, Pt.locs, Pt.cells, Pt.slots] at X62 l62 y62 z62 st62 hQ62
        subst l62 y62 z62
        obtain ⟨rfl, N62q, e62⟩ := hQ62
        have N62 := Fr.app N60 N62q
        refine goT st62 ?_
        show Go p.tables e below T62 (mkF m 197 #[.val (.int p1), .val (.int p2), .val (.int p3), .val (.int p4), .val (.int (0 : Int32)), .val (.int z4), .val (.ref b6), .val (.ref b47), .val (.ref b49), .val .null, .val (.int z52), .val (.int z54), .val (.int z56), .val .null, .val (.ref b57), .val (.int (1 : Int32))] [(.int (1 : Int32))]) _
        refine go1 (fun _ => XS.ifNo X62.here hx rfl (hb hby at_197) rfl ((if0 _ _).trans (feq (by decide : ¬ ((1 : Int32) = (0 : Int32)))).1)) ?_
        show Go p.tables e below T62 (mkF m 200 #[.val (.int p1), .val (.int p2), .val (.int p3), .val (.int p4), .val (.int (0 : Int32)), .val (.int z4), .val (.ref b6), .val (.ref b47), .val (.ref b49), .val .null, .val (.int z52), .val (.int z54), .val (.int z56), .val .null, .val (.ref b57), .val (.int (1 : Int32))] []) _
        refine go1 (fun _ => XS.iconst X62.here hx rfl (hb hby at_200)) ?_
        show Go p.tables e below T62 (mkF m 201 #[.val (.int p1), .val (.int p2), .val (.int p3), .val (.int p4), .val (.int (0 : Int32)), .val (.int z4), .val (.ref b6), .val (.ref b47), .val (.ref b49), .val .null, .val (.int z52), .val (.int z54), .val (.int z56), .val .null, .val (.ref b57), .val (.int (1 : Int32))] [(.int (1 : Int32))]) _
        refine go1 (fun _ => XS.goto X62.here hx rfl (pc0 := 201) (pc' := 205) rfl (hb hby at_201) (by decide) (by decide)) ?_
        show Go p.tables e below T62 (mkF m 205 #[.val (.int p1), .val (.int p2), .val (.int p3), .val (.int p4), .val (.int (0 : Int32)), .val (.int z4), .val (.ref b6), .val (.ref b47), .val (.ref b49), .val .null, .val (.int z52), .val (.int z54), .val (.int z56), .val .null, .val (.ref b57), .val (.int (1 : Int32))] [(.int (1 : Int32))]) _
        refine go1 (fun _ => XS.istore X62.here hx rfl (hb hby at_205) rfl (l' := #[.val (.int p1), .val (.int p2), .val (.int p3), .val (.int p4), .val (.int (0 : Int32)), .val (.int z4), .val (.ref b6), .val (.ref b47), .val (.ref b49), .val .null, .val (.int z52), .val (.int z54), .val (.int z56), .val .null, .val (.ref b57), .val (.int (1 : Int32))]) rfl) ?_
        show Go p.tables e below T62 (mkF m 207 #[.val (.int p1), .val (.int p2), .val (.int p3), .val (.int p4), .val (.int (0 : Int32)), .val (.int z4), .val (.ref b6), .val (.ref b47), .val (.ref b49), .val .null, .val (.int z52), .val (.int z54), .val (.int z56), .val .null, .val (.ref b57), .val (.int (1 : Int32))] []) _
        refine go1 (fun _ => XS.iload X62.here hx rfl (hb hby at_207) rfl) ?_
        show Go p.tables e below T62 (mkF m 209 #[.val (.int p1), .val (.int p2), .val (.int p3), .val (.int p4), .val (.int (0 : Int32)), .val (.int z4), .val (.ref b6), .val (.ref b47), .val (.ref b49), .val .null, .val (.int z52), .val (.int z54), .val (.int z56), .val .null, .val (.ref b57), .val (.int (1 : Int32))] [(.int (1 : Int32))]) _
        refine go1 (fun _ => XS.ifNo X62.here hx rfl (hb hby at_209) rfl ((if0 _ _).trans (feq (by decide : ¬ ((1 : Int32) = (0 : Int32)))).1)) ?_
        show Go p.tables e below T62 (mkF m 212 #[.val (.int p1), .val (.int p2), .val (.int p3), .val (.int p4), .val (.int (0 : Int32)), .val (.int z4), .val (.ref b6), .val (.ref b47), .val (.ref b49), .val .null, .val (.int z52), .val (.int z54), .val (.int z56), .val .null, .val (.ref b57), .val (.int (1 : Int32))] []) _
        refine go1 (fun _ => XS.aload X62.here hx rfl (hb hby at_212) rfl rfl) ?_
        show Go p.tables e below T62 (mkF m 214 #[.val (.int p1), .val (.int p2), .val (.int p3), .val (.int p4), .val (.int (0 : Int32)), .val (.int z4), .val (.ref b6), .val (.ref b47), .val (.ref b49), .val .null, .val (.int z52), .val (.int z54), .val (.int z56), .val .null, .val (.ref b57), .val (.int (1 : Int32))] [(.ref b6)]) _
        refine go1 (fun _ => XS.aload X62.here hx rfl (hb hby at_214) rfl rfl) ?_
        show Go p.tables e below T62 (mkF m 216 #[.val (.int p1), .val (.int p2), .val (.int p3), .val (.int p4), .val (.int (0 : Int32)), .val (.int z4), .val (.ref b6), .val (.ref b47), .val (.ref b49), .val .null, .val (.int z52), .val (.int z54), .val (.int z56), .val .null, .val (.ref b57), .val (.int (1 : Int32))] [(.ref b49), (.ref b6)]) _
        obtain ⟨_, _, ⟨T63, L63, k63, n63⟩, -, X63, ⟨Lc63, hQ63, l63, y63, z63⟩, st63⟩ := Jvm.LawKit.callS X62 hx (y := (⟨"com/example/enrout/enrout/broker/cli/Option", "operand", "(Ljava/lang/String;Ljava/lang/String;)Lcom/example/enrout/enrout/broker/cli/Option;"⟩ : MethodName)) hown48 (mvT hZ48 (hw _ (List.mem_of_getElem? (i := 50) rfl))) (mvT hZ48 (hw _ (List.mem_of_getElem? (i := 51) rfl))) (mvT hZ48 (hw _ (List.mem_of_getElem? (i := 14) rfl))) (mvT hZ48 (hw _ (List.mem_of_getElem? (i := 52) rfl))) (by decide) (backOf (W := 0) (rm7 l Z a0 hw [] b6 b49 T60.heap n0 (Nat.le_trans (Nat.le_trans (Nat.le_trans (Nat.le_trans (Nat.le_trans (Nat.le_trans Z0 K5.1) E47.1) K48.1) E57.1) K58.1) K60.1) ) hZ48 (hw _ (List.mem_of_getElem? (i := 52) rfl)) (hw _ (List.mem_of_getElem? (i := 14) rfl)) (by decide) (by decide)) (g := (mkF m 216 #[.val (.int p1), .val (.int p2), .val (.int p3), .val (.int p4), .val (.int (0 : Int32)), .val (.int z4), .val (.ref b6), .val (.ref b47), .val (.ref b49), .val .null, .val (.int z52), .val (.int z54), .val (.int z56), .val .null, .val (.ref b57), .val (.int (1 : Int32))] [(.ref b49), (.ref b6)])) rfl (by rw [hml]; rfl) (argsL := [(.ref b6), (.ref b49)]) (rest := []) (lenOf pd0_3 rfl) rfl (by show 2 * 0 + _ ≤ _; exact Nat.le_of_eq rfl) (hb hby at_216) (fun _ _ => ⟨rfl, e62, (by decide : 10 + 1 ≤ _), (by decide : 46 + 7 ≤ _)⟩)
        dsimp only [Pt.U, Pt.locs, Pt.cells, Pt.slots] at X63 l63 y63 z63 st63 hQ63
        subst l63 y63 z63
        obtain ⟨b64, rfl, N63q, K63, G63_0, G63_1⟩ := hQ63
        have N63 := Fr.app N62 N63q
        refine go1 st63 ?_
        show Go p.tables e below T63 (mkF m 219 #[.val (.int p1), .val (.int p2), .val (.int p3), .val (.int p4), .val (.int (0 : Int32)), .val (.int z4), .val (.ref b6), .val (.ref b47), .val (.ref b49), .val .null, .val (.int z52), .val (.int z54), .val (.int z56), .val .null, .val (.ref b57), .val (.int (1 : Int32))] [(.ref b64)]) _
        obtain ⟨cq65, kq65, q65a, q65b, q65c⟩ := isOf hZ48 rfl G63_0
        obtain ⟨_, _, ⟨T65, L65, k65, n65⟩, -, X65, ⟨Lc65, hQ65, l65, y65, z65⟩, st65⟩ := X63.virtualBack hx (y := (⟨"com/example/enrout/enrout/broker/cli/Option", "isFlag", "()Z"⟩ : MethodName)) (z := (⟨"com/example/enrout/enrout/broker/cli/Option", "isFlag", "()Z"⟩ : MethodName)) hown48 (mvT hZ48 (hw _ (List.mem_of_getElem? (i := 40) rfl))) (mvT hZ48 (hw _ (List.mem_of_getElem? (i := 41) rfl))) (notFace_of_selects (args := #[]) (mvT hZ48 (hw _ (List.mem_of_getElem? (i := 43) rfl)))) (mvT hZ48 (hw _ (List.mem_of_getElem? (i := 43) rfl))) (mvT hZ48 (hw _ (List.mem_of_getElem? (i := 42) rfl))) (by decide) (backOf (W := 0) (rmisb l Z a0 hw [] b64 b6 T63.heap n0 (Nat.le_trans (Nat.le_trans (Nat.le_trans (Nat.le_trans (Nat.le_trans (Nat.le_trans (Nat.le_trans Z0 K5.1) E47.1) K48.1) E57.1) K58.1) K60.1) K63.1) G63_1) hZ48 (hw _ (List.mem_of_getElem? (i := 44) rfl)) (hw _ (List.mem_of_getElem? (i := 14) rfl)) (by decide) (by decide)) q65a q65c (g := (mkF m 219 #[.val (.int p1), .val (.int p2), .val (.int p3), .val (.int p4), .val (.int (0 : Int32)), .val (.int z4), .val (.ref b6), .val (.ref b47), .val (.ref b49), .val .null, .val (.int z52), .val (.int z54), .val (.int z56), .val .null, .val (.ref b57), .val (.int (1 : Int32))] [(.ref b64)])) rfl (by rw [hml]; rfl) (Steps.refl _) (argsL := []) (rest := []) (lenOf pd0_2 rfl) rfl (by show 2 * 0 + _ ≤ _; exact Nat.le_of_eq rfl) (hb hby at_219) (fun _ _ => ⟨rfl, rfl, (by decide : 11 + 0 ≤ _), (by decide : 53 + 0 ≤ _)⟩)
        dsimp only [Pt.U, Pt.locs, Pt.cells, Pt.slots] at X65 l65 y65 z65 st65 hQ65
        subst l65 y65 z65
        obtain ⟨rfl, N65q, e65⟩ := hQ65
        have N65 := Fr.app N63 N65q
        refine goT st65 ?_
        show Go p.tables e below T65 (mkF m 222 #[.val (.int p1), .val (.int p2), .val (.int p3), .val (.int p4), .val (.int (0 : Int32)), .val (.int z4), .val (.ref b6), .val (.ref b47), .val (.ref b49), .val .null, .val (.int z52), .val (.int z54), .val (.int z56), .val .null, .val (.ref b57), .val (.int (1 : Int32))] [(.int (0 : Int32))]) _
        refine go1 (fun _ => XS.ifNo X65.here hx rfl (hb hby at_222) rfl ((if0 _ _).trans (teq (by decide : (0 : Int32) = (0 : Int32))).2)) ?_
        show Go p.tables e below T65 (mkF m 225 #[.val (.int p1), .val (.int p2), .val (.int p3), .val (.int p4), .val (.int (0 : Int32)), .val (.int z4), .val (.ref b6), .val (.ref b47), .val (.ref b49), .val .null, .val (.int z52), .val (.int z54), .val (.int z56), .val .null, .val (.ref b57), .val (.int (1 : Int32))] []) _
        refine go1 (fun _ => XS.iconst X65.here hx rfl (hb hby at_225)) ?_
        show Go p.tables e below T65 (mkF m 226 #[.val (.int p1), .val (.int p2), .val (.int p3), .val (.int p4), .val (.int (0 : Int32)), .val (.int z4), .val (.ref b6), .val (.ref b47), .val (.ref b49), .val .null, .val (.int z52), .val (.int z54), .val (.int z56), .val .null, .val (.ref b57), .val (.int (1 : Int32))] [(.int (1 : Int32))]) _
        refine go1 (fun _ => XS.goto X65.here hx rfl (pc0 := 226) (pc' := 230) rfl (hb hby at_226) (by decide) (by decide)) ?_
        show Go p.tables e below T65 (mkF m 230 #[.val (.int p1), .val (.int p2), .val (.int p3), .val (.int p4), .val (.int (0 : Int32)), .val (.int z4), .val (.ref b6), .val (.ref b47), .val (.ref b49), .val .null, .val (.int z52), .val (.int z54), .val (.int z56), .val .null, .val (.ref b57), .val (.int (1 : Int32))] [(.int (1 : Int32))]) _
        refine go1 (fun _ => XS.istore X65.here hx rfl (hb hby at_230) rfl (l' := #[.val (.int p1), .val (.int p2), .val (.int p3), .val (.int p4), .val (.int (0 : Int32)), .val (.int z4), .val (.ref b6), .val (.ref b47), .val (.ref b49), .val .null, .val (.int z52), .val (.int z54), .val (.int z56), .val .null, .val (.ref b57), .val (.int (1 : Int32))]) rfl) ?_
        show Go p.tables e below T65 (mkF m 232 #[.val (.int p1), .val (.int p2), .val (.int p3), .val (.int p4), .val (.int (0 : Int32)), .val (.int z4), .val (.ref b6), .val (.ref b47), .val (.ref b49), .val .null, .val (.int z52), .val (.int z54), .val (.int z56), .val .null, .val (.ref b57), .val (.int (1 : Int32))] []) _
        refine go1 (fun _ => XS.iload X65.here hx rfl (hb hby at_232) rfl) ?_
        show Go p.tables e below T65 (mkF m 234 #[.val (.int p1), .val (.int p2), .val (.int p3), .val (.int p4), .val (.int (0 : Int32)), .val (.int z4), .val (.ref b6), .val (.ref b47), .val (.ref b49), .val .null, .val (.int z52), .val (.int z54), .val (.int z56), .val .null, .val (.ref b57), .val (.int (1 : Int32))] [(.int (1 : Int32))]) _
        refine go1 (fun _ => XS.ifNo X65.here hx rfl (hb hby at_234) rfl ((if0 _ _).trans (feq (by decide : ¬ ((1 : Int32) = (0 : Int32)))).1)) ?_
        show Go p.tables e below T65 (mkF m 237 #[.val (.int p1), .val (.int p2), .val (.int p3), .val (.int p4), .val (.int (0 : Int32)), .val (.int z4), .val (.ref b6), .val (.ref b47), .val (.ref b49), .val .null, .val (.int z52), .val (.int z54), .val (.int z56), .val .null, .val (.ref b57), .val (.int (1 : Int32))] []) _
        refine go1 (fun _ => XS.aload X65.here hx rfl (hb hby at_237) rfl rfl) ?_
        show Go p.tables e below T65 (mkF m 239 #[.val (.int p1), .val (.int p2), .val (.int p3), .val (.int p4), .val (.int (0 : Int32)), .val (.int z4), .val (.ref b6), .val (.ref b47), .val (.ref b49), .val .null, .val (.int z52), .val (.int z54), .val (.int z56), .val .null, .val (.ref b57), .val (.int (1 : Int32))] [(.ref b47)]) _
        refine go1 (fun _ => XS.aload X65.here hx rfl (hb hby at_239) rfl rfl) ?_
        show Go p.tables e below T65 (mkF m 241 #[.val (.int p1), .val (.int p2), .val (.int p3), .val (.int p4), .val (.int (0 : Int32)), .val (.int z4), .val (.ref b6), .val (.ref b47), .val (.ref b49), .val .null, .val (.int z52), .val (.int z54), .val (.int z56), .val .null, .val (.ref b57), .val (.int (1 : Int32))] [(.ref b6), (.ref b47)]) _
        refine go1 (fun _ => XS.aload X65.here hx rfl (hb hby at_241) rfl rfl) ?_
        show Go p.tables e below T65 (mkF m 243 #[.val (.int p1), .val (.int p2), .val (.int p3), .val (.int p4), .val (.int (0 : Int32)), .val (.int z4), .val (.ref b6), .val (.ref b47), .val (.ref b49), .val .null, .val (.int z52), .val (.int z54), .val (.int z56), .val .null, .val (.ref b57), .val (.int (1 : Int32))] [(.ref b49), (.ref b6), (.ref b47)]) _
        obtain ⟨_, _, ⟨T66, L66, k66, n66⟩, -, X66, ⟨Lc66, hQ66, l66, y66, z66⟩, st66⟩ := Jvm.LawKit.callS X65 hx (y := (⟨"com/example/enrout/enrout/broker/cli/Option", "optional", "(Ljava/lang/String;Ljava/lang/String;Ljava/lang/String;)Lcom/example/enrout/enrout/broker/cli/Option;"⟩ : MethodName)) hown48 (mvT hZ48 (hw _ (List.mem_of_getElem? (i := 53) rfl))) (mvT hZ48 (hw _ (List.mem_of_getElem? (i := 54) rfl))) (mvT hZ48 (hw _ (List.mem_of_getElem? (i := 14) rfl))) (mvT hZ48 (hw _ (List.mem_of_getElem? (i := 55) rfl))) (by decide) (backOf (W := 0) (rm8 l Z a0 hw [] b47 b6 b49 T63.heap n0 (Nat.le_trans (Nat.le_trans (Nat.le_trans (Nat.le_trans (Nat.le_trans (Nat.le_trans (Nat.le_trans Z0 K5.1) E47.1) K48.1) E57.1) K58.1) K60.1) K63.1) ) hZ48 (hw _ (List.mem_of_getElem? (i := 55) rfl)) (hw _ (List.mem_of_getElem? (i := 14) rfl)) (by decide) (by decide)) (g := (mkF m 243 #[.val (.int p1), .val (.int p2), .val (.int p3), .val (.int p4), .val (.int (0 : Int32)), .val (.int z4), .val (.ref b6), .val (.ref b47), .val (.ref b49), .val .null, .val (.int z52), .val (.int z54), .val (.int z56), .val .null, .val (.ref b57), .val (.int (1 : Int32))] [(.ref b49), (.ref b6), (.ref b47)])) rfl (by rw [hml]; rfl) (argsL := [(.ref b47), (.ref b6), (.ref b49)]) (rest := []) (lenOf pd0_4 rfl) rfl (by show 2 * 0 + _ ≤ _; exact Nat.le_of_eq rfl) (hb hby at_243) (fun _ _ => ⟨rfl, e65, (by decide : 11 + 1 ≤ _), (by decide : 53 + 7 ≤ _)⟩)
        dsimp only [Pt.U, Pt.locs, Pt.cells, Pt.slots] at X66 l66 y66 z66 st66 hQ66
        subst l66 y66 z66
        obtain ⟨b67, rfl, N66q, K66, G66_0, G66_1⟩ := hQ66
        have N66 := Fr.app N65 N66q
        refine go1 st66 ?_
        show Go p.tables e below T66 (mkF m 246 #[.val (.int p1), .val (.int p2), .val (.int p3), .val (.int p4), .val (.int (0 : Int32)), .val (.int z4), .val (.ref b6), .val (.ref b47), .val (.ref b49), .val .null, .val (.int z52), .val (.int z54), .val (.int z56), .val .null, .val (.ref b57), .val (.int (1 : Int32))] [(.ref b67)]) _
        obtain ⟨cq68, kq68, q68a, q68b, q68c⟩ := isOf hZ48 rfl G66_0
        obtain ⟨_, _, ⟨T68, L68, k68, n68⟩, -, X68, ⟨Lc68, hQ68, l68, y68, z68⟩, st68⟩ := X66.virtualBack hx (y := (⟨"com/example/enrout/enrout/broker/cli/Option", "isFlag", "()Z"⟩ : MethodName)) (z := (⟨"com/example/enrout/enrout/broker/cli/Option", "isFlag", "()Z"⟩ : MethodName)) hown48 (mvT hZ48 (hw _ (List.mem_of_getElem? (i := 40) rfl))) (mvT hZ48 (hw _ (List.mem_of_getElem? (i := 41) rfl))) (notFace_of_selects (args := #[]) (mvT hZ48 (hw _ (List.mem_of_getElem? (i := 43) rfl)))) (mvT hZ48 (hw _ (List.mem_of_getElem? (i := 43) rfl))) (mvT hZ48 (hw _ (List.mem_of_getElem? (i := 42) rfl))) (by decide) (backOf (W := 0) (rmisb l Z a0 hw [] b67 b6 T66.heap n0 (Nat.le_trans (Nat.le_trans (Nat.le_trans (Nat.le_trans (Nat.le_trans (Nat.le_trans (Nat.le_trans (Nat.le_trans Z0 K5.1) E47.1) K48.1) E57.1) K58.1) K60.1) K63.1) K66.1) G66_1) hZ48 (hw _ (List.mem_of_getElem? (i := 44) rfl)) (hw _ (List.mem_of_getElem? (i := 14) rfl)) (by decide) (by decide)) q68a q68c (g := (mkF m 246 #[.val (.int p1), .val (.int p2), .val (.int p3), .val (.int p4), .val (.int (0 : Int32)), .val (.int z4), .val (.ref b6), .val (.ref b47), .val (.ref b49), .val .null, .val (.int z52), .val (.int z54), .val (.int z56), .val .null, .val (.ref b57), .val (.int (1 : Int32))] [(.ref b67)])) rfl (by rw [hml]; rfl) (Steps.refl _) (argsL := []) (rest := []) (lenOf pd0_2 rfl) rfl (by show 2 * 0 + _ ≤ _; exact Nat.le_of_eq rfl) (hb hby at_246) (fun _ _ => ⟨rfl, rfl, (by decide : 12 + 0 ≤ _), (by decide : 60 + 0 ≤ _)⟩)
        dsimp only [Pt.U, Pt.locs, Pt.cells, Pt.slots] at X68 l68 y68 z68 st68 hQ68
        subst l68 y68 z68
        obtain ⟨rfl, N68q, e68⟩ := hQ68
        have N68 := Fr.app N66 N68q
        refine goT st68 ?_
        show Go p.tables e below T68 (mkF m 249 #[.val (.int p1), .val (.int p2), .val (.int p3), .val (.int p4), .val (.int (0 : Int32)), .val (.int z4), .val (.ref b6), .val (.ref b47), .val (.ref b49), .val .null, .val (.int z52), .val (.int z54), .val (.int z56), .val .null, .val (.ref b57), .val (.int (1 : Int32))] [(.int (0 : Int32))]) _
        refine go1 (fun _ => XS.ifNo X68.here hx rfl (hb hby at_249) rfl ((if0 _ _).trans (teq (by decide : (0 : Int32) = (0 : Int32))).2)) ?_
        show Go p.tables e below T68 (mkF m 252 #[.val (.int p1), .val (.int p2), .val (.int p3), .val (.int p4), .val (.int (0 : Int32)), .val (.int z4), .val (.ref b6), .val (.ref b47), .val (.ref b49), .val .null, .val (.int z52), .val (.int z54), .val (.int z56), .val .null, .val (.ref b57), .val (.int (1 : Int32))] []) _
        refine go1 (fun _ => XS.iconst X68.here hx rfl (hb hby at_252)) ?_
        show Go p.tables e below T68 (mkF m 253 #[.val (.int p1), .val (.int p2), .val (.int p3), .val (.int p4), .val (.int (0 : Int32)), .val (.int z4), .val (.ref b6), .val (.ref b47), .val (.ref b49), .val .null, .val (.int z52), .val (.int z54), .val (.int z56), .val .null, .val (.ref b57), .val (.int (1 : Int32))] [(.int (1 : Int32))]) _
        refine go1 (fun _ => XS.goto X68.here hx rfl (pc0 := 253) (pc' := 257) rfl (hb hby at_253) (by decide) (by decide)) ?_
        show Go p.tables e below T68 (mkF m 257 #[.val (.int p1), .val (.int p2), .val (.int p3), .val (.int p4), .val (.int (0 : Int32)), .val (.int z4), .val (.ref b6), .val (.ref b47), .val (.ref b49), .val .null, .val (.int z52), .val (.int z54), .val (.int z56), .val .null, .val (.ref b57), .val (.int (1 : Int32))] [(.int (1 : Int32))]) _
        refine go1 (fun _ => XS.istore X68.here hx rfl (hb hby at_257) rfl (l' := #[.val (.int p1), .val (.int p2), .val (.int p3), .val (.int p4), .val (.int (0 : Int32)), .val (.int z4), .val (.ref b6), .val (.ref b47), .val (.ref b49), .val .null, .val (.int z52), .val (.int z54), .val (.int z56), .val .null, .val (.ref b57), .val (.int (1 : Int32))]) rfl) ?_
        show Go p.tables e below T68 (mkF m 259 #[.val (.int p1), .val (.int p2), .val (.int p3), .val (.int p4), .val (.int (0 : Int32)), .val (.int z4), .val (.ref b6), .val (.ref b47), .val (.ref b49), .val .null, .val (.int z52), .val (.int z54), .val (.int z56), .val .null, .val (.ref b57), .val (.int (1 : Int32))] []) _
        refine go1 (fun _ => XS.iload X68.here hx rfl (hb hby at_259) rfl) ?_
        show Go p.tables e below T68 (mkF m 261 #[.val (.int p1), .val (.int p2), .val (.int p3), .val (.int p4), .val (.int (0 : Int32)), .val (.int z4), .val (.ref b6), .val (.ref b47), .val (.ref b49), .val .null, .val (.int z52), .val (.int z54), .val (.int z56), .val .null, .val (.ref b57), .val (.int (1 : Int32))] [(.int (1 : Int32))]) _
        refine goRW (s := s) (vm₁ := T48.vm) X68 hS48 (by rw [e68]; exact (Nat.le_trans (Nat.le_trans (Nat.le_trans (Nat.le_trans (Nat.le_trans (Nat.le_refl _) E57.1) K58.1) K60.1) K63.1) K66.1)) (BodyLoose.notSynchronized Bd) (v := (some (.int (1 : Int32)))) (fun h => by rw [Bd.returns] at h; cases h) (Q0 Z p1 p2 p3 p4 a_COMPACT_STRINGS h0 n0) (fun fs hr => retN X68 hx (t := .boolean) Bd.returns (by simp) (hb hby at_261) hr) (by decide) (by decide) ?_
        show Q0 Z p1 p2 p3 p4 a_COMPACT_STRINGS h0 n0 _ T68.heap _
        rw [e68]
        exact ⟨rfl, N68⟩
      · skip
        refine go1 (fun _ => XS.ifNo X48.here hx rfl (hb hby at_71) rfl ((if0 _ _).trans (feq hc50).1)) ?_
        show Go p.tables e below T48 (mkF m 74 #[.val (.int p1), .val (.int p2), .val (.int p3), .val (.int p4), .val (.int (0 : Int32)), .val (.int z4), .val (.ref b6), .val (.ref b47), .val (.ref b49), .unset, .unset, .unset, .unset, .unset, .unset, .unset] []) _
        refine go1 (fun _ => XS.aload X48.here hx rfl (hb hby at_74) rfl rfl) ?_
        show Go p.tables e below T48 (mkF m 76 #[.val (.int p1), .val (.int p2), .val (.int p3), .val (.int p4), .val (.int (0 : Int32)), .val (.int z4), .val (.ref b6), .val (.ref b47), .val (.ref b49), .unset, .unset, .unset, .unset, .unset, .unset, .unset] [(.ref b6)]) _
        refine go1 (fun _ => XS.goto X48.here hx rfl (pc0 := 76) (pc' := 80) rfl (hb hby at_76) (by decide) (by decide)) ?_
        show Go p.tables e below T48 (mkF m 80 #[.val (.int p1), .val (.int p2), .val (.int p3), .val (.int p4), .val (.int (0 : Int32)), .val (.int z4), .val (.ref b6), .val (.ref b47), .val (.ref b49), .unset, .unset, .unset, .unset, .unset, .unset, .unset] [(.ref b6)]) _
        refine go1 (fun _ => XS.astore X48.here hx rfl (hb hby at_80) rfl rfl (l' := #[.val (.int p1), .val (.int p2), .val (.int p3), .val (.int p4), .val (.int (0 : Int32)), .val (.int z4), .val (.ref b6), .val (.ref b47), .val (.ref b49), .val (.ref b6), .unset, .unset, .unset, .unset, .unset, .unset]) rfl) ?_
        show Go p.tables e below T48 (mkF m 82 #[.val (.int p1), .val (.int p2), .val (.int p3), .val (.int p4), .val (.int (0 : Int32)), .val (.int z4), .val (.ref b6), .val (.ref b47), .val (.ref b49), .val (.ref b6), .unset, .unset, .unset, .unset, .unset, .unset] []) _
        refine go1 (fun _ => XS.iloadN X48.here hx rfl (hb hby at_82) rfl) ?_
        show Go p.tables e below T48 (mkF m 83 #[.val (.int p1), .val (.int p2), .val (.int p3), .val (.int p4), .val (.int (0 : Int32)), .val (.int z4), .val (.ref b6), .val (.ref b47), .val (.ref b49), .val (.ref b6), .unset, .unset, .unset, .unset, .unset, .unset] [(.int p4)]) _
        refine go1 (fun _ => XS.iconst X48.here hx rfl (hb hby at_83)) ?_
        show Go p.tables e below T48 (mkF m 84 #[.val (.int p1), .val (.int p2), .val (.int p3), .val (.int p4), .val (.int (0 : Int32)), .val (.int z4), .val (.ref b6), .val (.ref b47), .val (.ref b49), .val (.ref b6), .unset, .unset, .unset, .unset, .unset, .unset] [(.int (1 : Int32)), (.int p4)]) _
        refine go1 (fun _ => XS.iand X48.here hx rfl (hb hby at_84) rfl) ?_
        show Go p.tables e below T48 (mkF m 85 #[.val (.int p1), .val (.int p2), .val (.int p3), .val (.int p4), .val (.int (0 : Int32)), .val (.int z4), .val (.ref b6), .val (.ref b47), .val (.ref b49), .val (.ref b6), .unset, .unset, .unset, .unset, .unset, .unset] [(.int (p4 &&& (1 : Int32)))]) _
        refine go1 (T' := T48) (g' := (mkF m 93 #[.val (.int p1), .val (.int p2), .val (.int p3), .val (.int p4), .val (.int (0 : Int32)), .val (.int z4), .val (.ref b6), .val (.ref b47), .val (.ref b49), .val (.ref b6), .unset, .unset, .unset, .unset, .unset, .unset] [(.int (if (p4 &&& (1 : Int32)) = (0 : Int32) then (0 : Int32) else (1 : Int32)))])) (fun t k => ?_) ?_
        · by_cases hd69 : (p4 &&& (1 : Int32)) = (0 : Int32)
          · skip
            rw [(if_pos hd69 : (if (p4 &&& (1 : Int32)) = (0 : Int32) then (0 : Int32) else (1 : Int32)) = (0 : Int32))] at k
            show Steps p.tables e below (T48.setTop (mkF m 85 #[.val (.int p1), .val (.int p2), .val (.int p3), .val (.int p4), .val (.int (0 : Int32)), .val (.int z4), .val (.ref b6), .val (.ref b47), .val (.ref b49), .val (.ref b6), .unset, .unset, .unset, .unset, .unset, .unset] [(.int (p4 &&& (1 : Int32)))])) _
            refine XS.ifYes X48.here hx rfl (pc0 := 85) (pc' := 92) rfl (hb hby at_85) rfl ((if0 _ _).trans (teq hd69).1) (by decide) (by decide) ?_
            show Steps p.tables e below (T48.setTop (mkF m 92 #[.val (.int p1), .val (.int p2), .val (.int p3), .val (.int p4), .val (.int (0 : Int32)), .val (.int z4), .val (.ref b6), .val (.ref b47), .val (.ref b49), .val (.ref b6), .unset, .unset, .unset, .unset, .unset, .unset] [])) _
            refine XS.iconst X48.here hx rfl (hb hby at_92) ?_
            show Steps p.tables e below (T48.setTop (mkF m 93 #[.val (.int p1), .val (.int p2), .val (.int p3), .val (.int p4), .val (.int (0 : Int32)), .val (.int z4), .val (.ref b6), .val (.ref b47), .val (.ref b49), .val (.ref b6), .unset, .unset, .unset, .unset, .unset, .unset] [(.int (0 : Int32))])) _
            exact k
          · skip
            rw [(if_neg hd69 : (if (p4 &&& (1 : Int32)) = (0 : Int32) then (0 : Int32) else (1 : Int32)) = (1 : Int32))] at k
            show Steps p.tables e below (T48.setTop (mkF m 85 #[.val (.int p1), .val (.int p2), .val (.int p3), .val (.int p4), .val (.int (0 : Int32)), .val (.int z4), .val (.ref b6), .val (.ref b47), .val (.ref b49), .val (.ref b6), .unset, .unset, .unset, .unset, .unset, .unset] [(.int (p4 &&& (1 : Int32)))])) _
            refine XS.ifNo X48.here hx rfl (hb hby at_85) rfl ((if0 _ _).trans (feq hd69).1) ?_
            show Steps p.tables e below (T48.setTop (mkF m 88 #[.val (.int p1), .val (.int p2), .val (.int p3), .val (.int p4), .val (.int (0 : Int32)), .val (.int z4), .val (.ref b6), .val (.ref b47), .val (.ref b49), .val (.ref b6), .unset, .unset, .unset, .unset, .unset, .unset] [])) _
            refine XS.iconst X48.here hx rfl (hb hby at_88) ?_
            show Steps p.tables e below (T48.setTop (mkF m 89 #[.val (.int p1), .val (.int p2), .val (.int p3), .val (.int p4), .val (.int (0 : Int32)), .val (.int z4), .val (.ref b6), .val (.ref b47), .val (.ref b49), .val (.ref b6), .unset, .unset, .unset, .unset, .unset, .unset] [(.int (1 : Int32))])) _
            refine XS.goto X48.here hx rfl (pc0 := 89) (pc' := 93) rfl (hb hby at_89) (by decide) (by decide) ?_
            show Steps p.tables e below (T48.setTop (mkF m 93 #[.val (.int p1), .val (.int p2), .val (.int p3), .val (.int p4), .val (.int (0 : Int32)), .val (.int z4), .val (.ref b6), .val (.ref b47), .val (.ref b49), .val (.ref b6), .unset, .unset, .unset, .unset, .unset, .unset] [(.int (1 : Int32))])) _
            exact k
        show Go p.tables e below T48 (mkF m 93 #[.val (.int p1), .val (.int p2), .val (.int p3), .val (.int p4), .val (.int (0 : Int32)), .val (.int z4), .val (.ref b6), .val (.ref b47), .val (.ref b49), .val (.ref b6), .unset, .unset, .unset, .unset, .unset, .unset] [(.int (if (p4 &&& (1 : Int32)) = (0 : Int32) then (0 : Int32) else (1 : Int32)))]) _
        obtain ⟨z70, hz70⟩ : ∃ z : Int32, z = (if (p4 &&& (1 : Int32)) = (0 : Int32) then (0 : Int32) else (1 : Int32)) := ⟨_, rfl⟩
        rw [← hz70]
        show Go p.tables e below T48 (mkF m 93 #[.val (.int p1), .val (.int p2), .val (.int p3), .val (.int p4), .val (.int (0 : Int32)), .val (.int z4), .val (.ref b6), .val (.ref b47), .val (.ref b49), .val (.ref b6), .unset, .unset, .unset, .unset, .unset, .unset] [(.int z70)]) _
        refine go1 (fun _ => XS.istore X48.here hx rfl (hb hby at_93) rfl (l' := #[.val (.int p1), .val (.int p2), .val (.int p3), .val (.int p4), .val (.int (0 : Int32)), .val (.int z4), .val (.ref b6), .val (.ref b47), .val (.ref b49), .val (.ref b6), .val (.int z70), .unset, .unset, .unset, .unset, .unset]) rfl) ?_
        show Go p.tables e below T48 (mkF m 95 #[.val (.int p1), .val (.int p2), .val (.int p3), .val (.int p4), .val (.int (0 : Int32)), .val (.int z4), .val (.ref b6), .val (.ref b47), .val (.ref b49), .val (.ref b6), .val (.int z70), .unset, .unset, .unset, .unset, .unset] []) _
        refine go1 (fun _ => XS.iloadN X48.here hx rfl (hb hby at_95) rfl) ?_
        show Go p.tables e below T48 (mkF m 96 #[.val (.int p1), .val (.int p2), .val (.int p3), .val (.int p4), .val (.int (0 : Int32)), .val (.int z4), .val (.ref b6), .val (.ref b47), .val (.ref b49), .val (.ref b6), .val (.int z70), .unset, .unset, .unset, .unset, .unset] [(.int p4)]) _
        refine go1 (fun _ => XS.iconst X48.here hx rfl (hb hby at_96)) ?_
        show Go p.tables e below T48 (mkF m 97 #[.val (.int p1), .val (.int p2), .val (.int p3), .val (.int p4), .val (.int (0 : Int32)), .val (.int z4), .val (.ref b6), .val (.ref b47), .val (.ref b49), .val (.ref b6), .val (.int z70), .unset, .unset, .unset, .unset, .unset] [(.int (2 : Int32)), (.int p4)]) _
        refine go1 (fun _ => XS.iand X48.here hx rfl (hb hby at_97) rfl) ?_
        show Go p.tables e below T48 (mkF m 98 #[.val (.int p1), .val (.int p2), .val (.int p3), .val (.int p4), .val (.int (0 : Int32)), .val (.int z4), .val (.ref b6), .val (.ref b47), .val (.ref b49), .val (.ref b6), .val (.int z70), .unset, .unset, .unset, .unset, .unset] [(.int (p4 &&& (2 : Int32)))]) _
        refine go1 (T' := T48) (g' := (mkF m 106 #[.val (.int p1), .val (.int p2), .val (.int p3), .val (.int p4), .val (.int (0 : Int32)), .val (.int z4), .val (.ref b6), .val (.ref b47), .val (.ref b49), .val (.ref b6), .val (.int z70), .unset, .unset, .unset, .unset, .unset] [(.int (if (p4 &&& (2 : Int32)) = (0 : Int32) then (0 : Int32) else (1 : Int32)))])) (fun t k => ?_) ?_
        · by_cases hd71 : (p4 &&& (2 : Int32)) = (0 : Int32)
          · skip
            rw [(if_pos hd71 : (if (p4 &&& (2 : Int32)) = (0 : Int32) then (0 : Int32) else (1 : Int32)) = (0 : Int32))] at k
            show Steps p.tables e below (T48.setTop (mkF m 98 #[.val (.int p1), .val (.int p2), .val (.int p3), .val (.int p4), .val (.int (0 : Int32)), .val (.int z4), .val (.ref b6), .val (.ref b47), .val (.ref b49), .val (.ref b6), .val (.int z70), .unset, .unset, .unset, .unset, .unset] [(.int (p4 &&& (2 : Int32)))])) _
            refine XS.ifYes X48.here hx rfl (pc0 := 98) (pc' := 105) rfl (hb hby at_98) rfl ((if0 _ _).trans (teq hd71).1) (by decide) (by decide) ?_
            show Steps p.tables e below (T48.setTop (mkF m 105 #[.val (.int p1), .val (.int p2), .val (.int p3), .val (.int p4), .val (.int (0 : Int32)), .val (.int z4), .val (.ref b6), .val (.ref b47), .val (.ref b49), .val (.ref b6), .val (.int z70), .unset, .unset, .unset, .unset, .unset] [])) _
            refine XS.iconst X48.here hx rfl (hb hby at_105) ?_
            show Steps p.tables e below (T48.setTop (mkF m 106 #[.val (.int p1), .val (.int p2), .val (.int p3), .val (.int p4), .val (.int (0 : Int32)), .val (.int z4), .val (.ref b6), .val (.ref b47), .val (.ref b49), .val (.ref b6), .val (.int z70), .unset, .unset, .unset, .unset, .unset] [(.int (0 : Int32))])) _
            exact k
          · skip
            rw [(if_neg hd71 : (if (p4 &&& (2 : Int32)) = (0 : Int32) then (0 : Int32) else (1 : Int32)) = (1 : Int32))] at k
            show Steps p.tables e below (T48.setTop (mkF m 98 #[.val (.int p1), .val (.int p2), .val (.int p3), .val (.int p4), .val (.int (0 : Int32)), .val (.int z4), .val (.ref b6), .val (.ref b47), .val (.ref b49), .val (.ref b6), .val (.int z70), .unset, .unset, .unset, .unset, .unset] [(.int (p4 &&& (2 : Int32)))])) _
            refine XS.ifNo X48.here hx rfl (hb hby at_98) rfl ((if0 _ _).trans (feq hd71).1) ?_
            show Steps p.tables e below (T48.setTop (mkF m 101 #[.val (.int p1), .val (.int p2), .val (.int p3), .val (.int p4), .val (.int (0 : Int32)), .val (.int z4), .val (.ref b6), .val (.ref b47), .val (.ref b49), .val (.ref b6), .val (.int z70), .unset, .unset, .unset, .unset, .unset] [])) _
            refine XS.iconst X48.here hx rfl (hb hby at_101) ?_
            show Steps p.tables e below (T48.setTop (mkF m 102 #[.val (.int p1), .val (.int p2), .val (.int p3), .val (.int p4), .val (.int (0 : Int32)), .val (.int z4), .val (.ref b6), .val (.ref b47), .val (.ref b49), .val (.ref b6), .val (.int z70), .unset, .unset, .unset, .unset, .unset] [(.int (1 : Int32))])) _
            refine XS.goto X48.here hx rfl (pc0 := 102) (pc' := 106) rfl (hb hby at_102) (by decide) (by decide) ?_
            show Steps p.tables e below (T48.setTop (mkF m 106 #[.val (.int p1), .val (.int p2), .val (.int p3), .val (.int p4), .val (.int (0 : Int32)), .val (.int z4), .val (.ref b6), .val (.ref b47), .val (.ref b49), .val (.ref b6), .val (.int z70), .unset, .unset, .unset, .unset, .unset] [(.int (1 : Int32))])) _
            exact k
        show Go p.tables e below T48 (mkF m 106 #[.val (.int p1), .val (.int p2), .val (.int p3), .val (.int p4), .val (.int (0 : Int32)), .val (.int z4), .val (.ref b6), .val (.ref b47), .val (.ref b49), .val (.ref b6), .val (.int z70), .unset, .unset, .unset, .unset, .unset] [(.int (if (p4 &&& (2 : Int32)) = (0 : Int32) then (0 : Int32) else (1 : Int32)))]) _
        obtain ⟨z72, hz72⟩ : ∃ z : Int32, z = (if (p4 &&& (2 : Int32)) = (0 : Int32) then (0 : Int32) else (1 : Int32)) := ⟨_, rfl⟩
        rw [← hz72]
        show Go p.tables e below T48 (mkF m 106 #[.val (.int p1), .val (.int p2), .val (.int p3), .val (.int p4), .val (.int (0 : Int32)), .val (.int z4), .val (.ref b6), .val (.ref b47), .val (.ref b49), .val (.ref b6), .val (.int z70), .unset, .unset, .unset, .unset, .unset] [(.int z72)]) _
        refine go1 (fun _ => XS.istore X48.here hx rfl (hb hby at_106) rfl (l' := #[.val (.int p1), .val (.int p2), .val (.int p3), .val (.int p4), .val (.int (0 : Int32)), .val (.int z4), .val (.ref b6), .val (.ref b47), .val (.ref b49), .val (.ref b6), .val (.int z70), .val (.int z72), .unset, .unset, .unset, .unset]) rfl) ?_
        show Go p.tables e below T48 (mkF m 108 #[.val (.int p1), .val (.int p2), .val (.int p3), .val (.int p4), .val (.int (0 : Int32)), .val (.int z4), .val (.ref b6), .val (.ref b47), .val (.ref b49), .val (.ref b6), .val (.int z70), .val (.int z72), .unset, .unset, .unset, .unset] []) _
        refine go1 (fun _ => XS.iloadN X48.here hx rfl (hb hby at_108) rfl) ?_
        show Go p.tables e below T48 (mkF m 109 #[.val (.int p1), .val (.int p2), .val (.int p3), .val (.int p4), .val (.int (0 : Int32)), .val (.int z4), .val (.ref b6), .val (.ref b47), .val (.ref b49), .val (.ref b6), .val (.int z70), .val (.int z72), .unset, .unset, .unset, .unset] [(.int p4)]) _
        refine go1 (fun _ => XS.iconst X48.here hx rfl (hb hby at_109)) ?_
        show Go p.tables e below T48 (mkF m 110 #[.val (.int p1), .val (.int p2), .val (.int p3), .val (.int p4), .val (.int (0 : Int32)), .val (.int z4), .val (.ref b6), .val (.ref b47), .val (.ref b49), .val (.ref b6), .val (.int z70), .val (.int z72), .unset, .unset, .unset, .unset] [(.int (4 : Int32)), (.int p4)]) _
        refine go1 (fun _ => XS.iand X48.here hx rfl (hb hby at_110) rfl) ?_
        show Go p.tables e below T48 (mkF m 111 #[.val (.int p1), .val (.int p2), .val (.int p3), .val (.int p4), .val (.int (0 : Int32)), .val (.int z4), .val (.ref b6), .val (.ref b47), .val (.ref b49), .val (.ref b6), .val (.int z70), .val (.int z72), .unset, .unset, .unset, .unset] [(.int (p4 &&& (4 : Int32)))]) _
        refine go1 (T' := T48) (g' := (mkF m 119 #[.val (.int p1), .val (.int p2), .val (.int p3), .val (.int p4), .val (.int (0 : Int32)), .val (.int z4), .val (.ref b6), .val (.ref b47), .val (.ref b49), .val (.ref b6), .val (.int z70), .val (.int z72), .unset, .unset, .unset, .unset] [(.int (if (p4 &&& (4 : Int32)) = (0 : Int32) then (0 : Int32) else (1 : Int32)))])) (fun t k => ?_) ?_
        · by_cases hd73 : (p4 &&& (4 : Int32)) = (0 : Int32)
          · skip
            rw [(if_pos hd73 : (if (p4 &&& (4 : Int32)) = (0 : Int32) then (0 : Int32) else (1 : Int32)) = (0 : Int32))] at k
            show Steps p.tables e below (T48.setTop (mkF m 111 #[.val (.int p1), .val (.int p2), .val (.int p3), .val (.int p4), .val (.int (0 : Int32)), .val (.int z4), .val (.ref b6), .val (.ref b47), .val (.ref b49), .val (.ref b6), .val (.int z70), .val (.int z72), .unset, .unset, .unset, .unset] [(.int (p4 &&& (4 : Int32)))])) _
            refine XS.ifYes X48.here hx rfl (pc0 := 111) (pc' := 118) rfl (hb hby at_111) rfl ((if0 _ _).trans (teq hd73).1) (by decide) (by decide) ?_
            show Steps p.tables e below (T48.setTop (mkF m 118 #[.val (.int p1), .val (.int p2), .val (.int p3), .val (.int p4), .val (.int (0 : Int32)), .val (.int z4), .val (.ref b6), .val (.ref b47), .val (.ref b49), .val (.ref b6), .val (.int z70), .val (.int z72), .unset, .unset, .unset, .unset] [])) _
            refine XS.iconst X48.here hx rfl (hb hby at_118) ?_
            show Steps p.tables e below (T48.setTop (mkF m 119 #[.val (.int p1), .val (.int p2), .val (.int p3), .val (.int p4), .val (.int (0 : Int32)), .val (.int z4), .val (.ref b6), .val (.ref b47), .val (.ref b49), .val (.ref b6), .val (.int z70), .val (.int z72), .unset, .unset, .unset, .unset] [(.int (0 : Int32))])) _
            exact k
          · skip
            rw [(if_neg hd73 : (if (p4 &&& (4 : Int32)) = (0 : Int32) then (0 : Int32) else (1 : Int32)) = (1 : Int32))] at k
            show Steps p.tables e below (T48.setTop (mkF m 111 #[.val (.int p1), .val (.int p2), .val (.int p3), .val (.int p4), .val (.int (0 : Int32)), .val (.int z4), .val (.ref b6), .val (.ref b47), .val (.ref b49), .val (.ref b6), .val (.int z70), .val (.int z72), .unset, .unset, .unset, .unset] [(.int (p4 &&& (4 : Int32)))])) _
            refine XS.ifNo X48.here hx rfl (hb hby at_111) rfl ((if0 _ _).trans (feq hd73).1) ?_
            show Steps p.tables e below (T48.setTop (mkF m 114 #[.val (.int p1), .val (.int p2), .val (.int p3), .val (.int p4), .val (.int (0 : Int32)), .val (.int z4), .val (.ref b6), .val (.ref b47), .val (.ref b49), .val (.ref b6), .val (.int z70), .val (.int z72), .unset, .unset, .unset, .unset] [])) _
            refine XS.iconst X48.here hx rfl (hb hby at_114) ?_
            show Steps p.tables e below (T48.setTop (mkF m 115 #[.val (.int p1), .val (.int p2), .val (.int p3), .val (.int p4), .val (.int (0 : Int32)), .val (.int z4), .val (.ref b6), .val (.ref b47), .val (.ref b49), .val (.ref b6), .val (.int z70), .val (.int z72), .unset, .unset, .unset, .unset] [(.int (1 : Int32))])) _
            refine XS.goto X48.here hx rfl (pc0 := 115) (pc' := 119) rfl (hb hby at_115) (by decide) (by decide) ?_
            show Steps p.tables e below (T48.setTop (mkF m 119 #[.val (.int p1), .val (.int p2), .val (.int p3), .val (.int p4), .val (.int (0 : Int32)), .val (.int z4), .val (.ref b6), .val (.ref b47), .val (.ref b49), .val (.ref b6), .val (.int z70), .val (.int z72), .unset, .unset, .unset, .unset] [(.int (1 : Int32))])) _
            exact k
        show Go p.tables e below T48 (mkF m 119 #[.val (.int p1), .val (.int p2), .val (.int p3), .val (.int p4), .val (.int (0 : Int32)), .val (.int z4), .val (.ref b6), .val (.ref b47), .val (.ref b49), .val (.ref b6), .val (.int z70), .val (.int z72), .unset, .unset, .unset, .unset] [(.int (if (p4 &&& (4 : Int32)) = (0 : Int32) then (0 : Int32) else (1 : Int32)))]) _
        obtain ⟨z74, hz74⟩ : ∃ z : Int32, z = (if (p4 &&& (4 : Int32)) = (0 : Int32) then (0 : Int32) else (1 : Int32)) := ⟨_, rfl⟩
        rw [← hz74]
        show Go p.tables e below T48 (mkF m 119 #[.val (.int p1), .val (.int p2), .val (.int p3), .val (.int p4), .val (.int (0 : Int32)), .val (.int z4), .val (.ref b6), .val (.ref b47), .val (.ref b49), .val (.ref b6), .val (.int z70), .val (.int z72), .unset, .unset, .unset, .unset] [(.int z74)]) _
        refine go1 (fun _ => XS.istore X48.here hx rfl (hb hby at_119) rfl (l' := #[.val (.int p1), .val (.int p2), .val (.int p3), .val (.int p4), .val (.int (0 : Int32)), .val (.int z4), .val (.ref b6), .val (.ref b47), .val (.ref b49), .val (.ref b6), .val (.int z70), .val (.int z72), .val (.int z74), .unset, .unset, .unset]) rfl) ?_
        show Go p.tables e below T48 (mkF m 121 #[.val (.int p1), .val (.int p2), .val (.int p3), .val (.int p4), .val (.int (0 : Int32)), .val (.int z4), .val (.ref b6), .val (.ref b47), .val (.ref b49), .val (.ref b6), .val (.int z70), .val (.int z72), .val (.int z74), .unset, .unset, .unset] []) _
        refine go1 (fun _ => XS.iload X48.here hx rfl (hb hby at_121) rfl) ?_
        show Go p.tables e below T48 (mkF m 123 #[.val (.int p1), .val (.int p2), .val (.int p3), .val (.int p4), .val (.int (0 : Int32)), .val (.int z4), .val (.ref b6), .val (.ref b47), .val (.ref b49), .val (.ref b6), .val (.int z70), .val (.int z72), .val (.int z74), .unset, .unset, .unset] [(.int (0 : Int32))]) _
        refine go1 (fun _ => XS.ifYes X48.here hx rfl (pc0 := 123) (pc' := 131) rfl (hb hby at_123) rfl ((if0 _ _).trans (teq (by decide : (0 : Int32) = (0 : Int32))).1) (by decide) (by decide)) ?_
        show Go p.tables e below T48 (mkF m 131 #[.val (.int p1), .val (.int p2), .val (.int p3), .val (.int p4), .val (.int (0 : Int32)), .val (.int z4), .val (.ref b6), .val (.ref b47), .val (.ref b49), .val (.ref b6), .val (.int z70), .val (.int z72), .val (.int z74), .unset, .unset, .unset] []) _
        refine go1 (fun _ => XS.aconstNull X48.here hx rfl (hb hby at_131)) ?_
        show Go p.tables e below T48 (mkF m 132 #[.val (.int p1), .val (.int p2), .val (.int p3), .val (.int p4), .val (.int (0 : Int32)), .val (.int z4), .val (.ref b6), .val (.ref b47), .val (.ref b49), .val (.ref b6), .val (.int z70), .val (.int z72), .val (.int z74), .unset, .unset, .unset] [.null]) _
        refine go1 (fun _ => XS.astore X48.here hx rfl (hb hby at_132) rfl rfl (l' := #[.val (.int p1), .val (.int p2), .val (.int p3), .val (.int p4), .val (.int (0 : Int32)), .val (.int z4), .val (.ref b6), .val (.ref b47), .val (.ref b49), .val (.ref b6), .val (.int z70), .val (.int z72), .val (.int z74), .val .null, .unset, .unset]) rfl) ?_
        show Go p.tables e below T48 (mkF m 134 #[.val (.int p1), .val (.int p2), .val (.int p3), .val (.int p4), .val (.int (0 : Int32)), .val (.int z4), .val (.ref b6), .val (.ref b47), .val (.ref b49), .val (.ref b6), .val (.int z70), .val (.int z72), .val (.int z74), .val .null, .unset, .unset] []) _
        obtain ⟨T75, h75, X75, e75, E75, A75, D75, -, st75⟩ := newO X48 hx hZ48 hown48 (hw _ (List.mem_of_getElem? (i := 12) rfl)) (hw _ (List.mem_of_getElem? (i := 13) rfl)) (hw _ (List.mem_of_getElem? (i := 14) rfl)) rfl (g := (mkF m 134 #[.val (.int p1), .val (.int p2), .val (.int p3), .val (.int p4), .val (.int (0 : Int32)), .val (.int z4), .val (.ref b6), .val (.ref b47), .val (.ref b49), .val (.ref b6), .val (.int z70), .val (.int z72), .val (.int z74), .val .null, .unset, .unset] [])) rfl (hb hby at_134) (by decide) (by decide)
        obtain ⟨b75, g75⟩ : ∃ z, z = T48.heap.size := ⟨_, rfl⟩
        rw [← g75] at A75 D75 st75
        have g_b75 : n0 ≤ b75 := Nat.le_trans (Nat.le_trans (Nat.le_trans (Nat.le_trans Z0 K5.1) E47.1) K48.1) (Nat.le_of_eq g75.symm)
        have F_name_b75 : Fld Z h75 b75 "com/example/enrout/enrout/broker/cli/Option" "name" "Ljava/lang/String;" .null := D75 (Or.inr (hw _ (List.mem_of_getElem? (i := 27) rfl))) (ty := (.object "java/lang/String")) (by decide)
        have F_value_b75 : Fld Z h75 b75 "com/example/enrout/enrout/broker/cli/Option" "value" "Ljava/lang/String;" .null := D75 (Or.inr (hw _ (List.mem_of_getElem? (i := 29) rfl))) (ty := (.object "java/lang/String")) (by decide)
        have F_help_b75 : Fld Z h75 b75 "com/example/enrout/enrout/broker/cli/Option" "help" "Ljava/lang/String;" .null := D75 (Or.inr (hw _ (List.mem_of_getElem? (i := 31) rfl))) (ty := (.object "java/lang/String")) (by decide)
        have F_defaultValue_b75 : Fld Z h75 b75 "com/example/enrout/enrout/broker/cli/Option" "defaultValue" "Ljava/lang/String;" .null := D75 (Or.inr (hw _ (List.mem_of_getElem? (i := 33) rfl))) (ty := (.object "java/lang/String")) (by decide)
        have F_required_b75 : Fld Z h75 b75 "com/example/enrout/enrout/broker/cli/Option" "required" "Z" (.int (0 : Int32)) := D75 (Or.inr (hw _ (List.mem_of_getElem? (i := 35) rfl))) (ty := .boolean) (by decide)
        have F_repeatable_b75 : Fld Z h75 b75 "com/example/enrout/enrout/broker/cli/Option" "repeatable" "Z" (.int (0 : Int32)) := D75 (Or.inr (hw _ (List.mem_of_getElem? (i := 37) rfl))) (ty := .boolean) (by decide)
        have F_several_b75 : Fld Z h75 b75 "com/example/enrout/enrout/broker/cli/Option" "several" "Z" (.int (0 : Int32)) := D75 (Or.inr (hw _ (List.mem_of_getElem? (i := 39) rfl))) (ty := .boolean) (by decide)
        refine go1 st75 ?_
        show Go p.tables e below T75 (mkF m 137 #[.val (.int p1), .val (.int p2), .val (.int p3), .val (.int p4), .val (.int (0 : Int32)), .val (.int z4), .val (.ref b6), .val (.ref b47), .val (.ref b49), .val (.ref b6), .val (.int z70), .val (.int z72), .val (.int z74), .val .null, .unset, .unset] [(.ref b75)]) _
        refine go1 (fun _ => XS.dup X75.here hx rfl (hb hby at_137) rfl rfl) ?_
        show Go p.tables e below T75 (mkF m 138 #[.val (.int p1), .val (.int p2), .val (.int p3), .val (.int p4), .val (.int (0 : Int32)), .val (.int z4), .val (.ref b6), .val (.ref b47), .val (.ref b49), .val (.ref b6), .val (.int z70), .val (.int z72), .val (.int z74), .val .null, .unset, .unset] [(.ref b75), (.ref b75)]) _
        refine go1 (fun _ => XS.aload X75.here hx rfl (hb hby at_138) rfl rfl) ?_
        show Go p.tables e below T75 (mkF m 140 #[.val (.int p1), .val (.int p2), .val (.int p3), .val (.int p4), .val (.int (0 : Int32)), .val (.int z4), .val (.ref b6), .val (.ref b47), .val (.ref b49), .val (.ref b6), .val (.int z70), .val (.int z72), .val (.int z74), .val .null, .unset, .unset] [(.ref b47), (.ref b75), (.ref b75)]) _
        refine go1 (fun _ => XS.aload X75.here hx rfl (hb hby at_140) rfl rfl) ?_
        show Go p.tables e below T75 (mkF m 142 #[.val (.int p1), .val (.int p2), .val (.int p3), .val (.int p4), .val (.int (0 : Int32)), .val (.int z4), .val (.ref b6), .val (.ref b47), .val (.ref b49), .val (.ref b6), .val (.int z70), .val (.int z72), .val (.int z74), .val .null, .unset, .unset] [.null, (.ref b47), (.ref b75), (.ref b75)]) _
        refine go1 (fun _ => XS.aload X75.here hx rfl (hb hby at_142) rfl rfl) ?_
        show Go p.tables e below T75 (mkF m 144 #[.val (.int p1), .val (.int p2), .val (.int p3), .val (.int p4), .val (.int (0 : Int32)), .val (.int z4), .val (.ref b6), .val (.ref b47), .val (.ref b49), .val (.ref b6), .val (.int z70), .val (.int z72), .val (.int z74), .val .null, .unset, .unset] [(.ref b49), .null, (.ref b47), (.ref b75), (.ref b75)]) _
        refine go1 (fun _ => XS.aload X75.here hx rfl (hb hby at_144) rfl rfl) ?_
        show Go p.tables e below T75 (mkF m 146 #[.val (.int p1), .val (.int p2), .val (.int p3), .val (.int p4), .val (.int (0 : Int32)), .val (.int z4), .val (.ref b6), .val (.ref b47), .val (.ref b49), .val (.ref b6), .val (.int z70), .val (.int z72), .val (.int z74), .val .null, .unset, .unset] [(.ref b6), (.ref b49), .null, (.ref b47), (.ref b75), (.ref b75)]) _
        refine go1 (fun _ => XS.iload X75.here hx rfl (hb hby at_146) rfl) ?_
        show Go p.tables e below T75 (mkF m 148 #[.val (.int p1), .val (.int p2), .val (.int p3), .val (.int p4), .val (.int (0 : Int32)), .val (.int z4), .val (.ref b6), .val (.ref b47), .val (.ref b49), .val (.ref b6), .val (.int z70), .val (.int z72), .val (.int z74), .val .null, .unset, .unset] [(.int z70), (.ref b6), (.ref b49), .null, (.ref b47), (.ref b75), (.ref b75)]) _
        refine go1 (fun _ => XS.iload X75.here hx rfl (hb hby at_148) rfl) ?_
        show Go p.tables e below T75 (mkF m 150 #[.val (.int p1), .val (.int p2), .val (.int p3), .val (.int p4), .val (.int (0 : Int32)), .val (.int z4), .val (.ref b6), .val (.ref b47), .val (.ref b49), .val (.ref b6), .val (.int z70), .val (.int z72), .val (.int z74), .val .null, .unset, .unset] [(.int z72), (.int z70), (.ref b6), (.ref b49), .null, (.ref b47), (.ref b75), (.ref b75)]) _
        refine go1 (fun _ => XS.iload X75.here hx rfl (hb hby at_150) rfl) ?_
        show Go p.tables e below T75 (mkF m 152 #[.val (.int p1), .val (.int p2), .val (.int p3), .val (.int p4), .val (.int (0 : Int32)), .val (.int z4), .val (.ref b6), .val (.ref b47), .val (.ref b49), .val (.ref b6), .val (.int z70), .val (.int z72), .val (.int z74), .val .null, .unset, .unset] [(.int z74), (.int z72), (.int z70), (.ref b6), (.ref b49), .null, (.ref b47), (.ref b75), (.ref b75)]) _
        obtain ⟨_, _, ⟨T76, L76, k76, n76⟩, -, X76, ⟨Lc76, hQ76, l76, y76, z76⟩, st76⟩ := X75.specialBack hx (y := (⟨"com/example/enrout/enrout/broker/cli/Option", "<init>", "(Ljava/lang/String;Ljava/lang/String;Ljava/lang/String;Ljava/lang/String;ZZZ)V"⟩ : MethodName)) rfl hown48 (mvT hZ48 (hw _ (List.mem_of_getElem? (i := 15) rfl))) (mvT hZ48 (hw _ (List.mem_of_getElem? (i := 16) rfl))) (mvT hZ48 (hw _ (List.mem_of_getElem? (i := 17) rfl))) (by decide) (backOf (W := 1) (rm2 l Z a0 hw [] b75 (.ref b47) .null (.ref b49) (.ref b6) z70 z72 z74 h75 n0 (Nat.le_trans (Nat.le_trans (Nat.le_trans (Nat.le_trans Z0 K5.1) E47.1) K48.1) E75.1) F_name_b75 F_value_b75 F_help_b75 F_defaultValue_b75 F_required_b75 F_repeatable_b75 F_several_b75 A75 g_b75 (by first | assumption | decide | rfl) (by first | assumption | decide | rfl) (by first | assumption | decide | rfl) (by first | assumption | decide | rfl)) hZ48 (hw _ (List.mem_of_getElem? (i := 17) rfl)) (hw _ (List.mem_of_getElem? (i := 14) rfl)) (by decide) (by decide)) (g := (mkF m 152 #[.val (.int p1), .val (.int p2), .val (.int p3), .val (.int p4), .val (.int (0 : Int32)), .val (.int z4), .val (.ref b6), .val (.ref b47), .val (.ref b49), .val (.ref b6), .val (.int z70), .val (.int z72), .val (.int z74), .val .null, .unset, .unset] [(.int z74), (.int z72), (.int z70), (.ref b6), (.ref b49), .null, (.ref b47), (.ref b75), (.ref b75)])) rfl (by rw [hml]; rfl) (Steps.refl _) (a := b75) (argsL := [(.ref b47), .null, (.ref b49), (.ref b6), (.int z70), (.int z72), (.int z74)]) (rest := [(.ref b75)]) (lenOf pd0_1 rfl) rfl (by show 2 * 0 + _ ≤ _; exact Nat.le_of_eq rfl) (hb hby at_152) (fun _ _ => ⟨rfl, e75, (by decide : 9 + 0 ≤ _), (by decide : 39 + 0 ≤ _)⟩)
        dsimp only [Pt.U, Pt.locs, Pt.cells, Pt.slots] at X76 l76 y76 z76 st76 hQ76
        subst l76 y76 z76
        obtain ⟨rfl, N76q, K76, G76_0, G76_1⟩ := hQ76
        have N76 := Fr.app N48 N76q
        refine goT st76 ?_
        show Go p.tables e below T76 (mkF m 155 #[.val (.int p1), .val (.int p2), .val (.int p3), .val (.int p4), .val (.int (0 : Int32)), .val (.int z4), .val (.ref b6), .val (.ref b47), .val (.ref b49), .val (.ref b6), .val (.int z70), .val (.int z72), .val (.int z74), .val .null, .unset, .unset] [(.ref b75)]) _
        refine go1 (fun _ => XS.astore X76.here hx rfl (hb hby at_155) rfl rfl (l' := #[.val (.int p1), .val (.int p2), .val (.int p3), .val (.int p4), .val (.int (0 : Int32)), .val (.int z4), .val (.ref b6), .val (.ref b47), .val (.ref b49), .val (.ref b6), .val (.int z70), .val (.int z72), .val (.int z74), .val .null, .val (.ref b75), .unset]) rfl) ?_
        show Go p.tables e below T76 (mkF m 157 #[.val (.int p1), .val (.int p2), .val (.int p3), .val (.int p4), .val (.int (0 : Int32)), .val (.int z4), .val (.ref b6), .val (.ref b47), .val (.ref b49), .val (.ref b6), .val (.int z70), .val (.int z72), .val (.int z74), .val .null, .val (.ref b75), .unset] []) _
        refine go1 (fun _ => XS.aload X76.here hx rfl (hb hby at_157) rfl rfl) ?_
        show Go p.tables e below T76 (mkF m 159 #[.val (.int p1), .val (.int p2), .val (.int p3), .val (.int p4), .val (.int (0 : Int32)), .val (.int z4), .val (.ref b6), .val (.ref b47), .val (.ref b49), .val (.ref b6), .val (.int z70), .val (.int z72), .val (.int z74), .val .null, .val (.ref b75), .unset] [(.ref b75)]) _
        obtain ⟨cq77, kq77, q77a, q77b, q77c⟩ := isOf hZ48 rfl G76_0
        obtain ⟨_, _, ⟨T77, L77, k77, n77⟩, -, X77, ⟨Lc77, hQ77, l77, y77, z77⟩, st77⟩ := X76.virtualBack hx (y := (⟨"com/example/enrout/enrout/broker/cli/Option", "isFlag", "()Z"⟩ : MethodName)) (z := (⟨"com/example/enrout/enrout/broker/cli/Option", "isFlag", "()Z"⟩ : MethodName)) hown48 (mvT hZ48 (hw _ (List.mem_of_getElem? (i := 40) rfl))) (mvT hZ48 (hw _ (List.mem_of_getElem? (i := 41) rfl))) (notFace_of_selects (args := #[]) (mvT hZ48 (hw _ (List.mem_of_getElem? (i := 43) rfl)))) (mvT hZ48 (hw _ (List.mem_of_getElem? (i := 43) rfl))) (mvT hZ48 (hw _ (List.mem_of_getElem? (i := 42) rfl))) (by decide) (backOf (W := 0) (rmisa l Z a0 hw [] b75 T76.heap n0 (Nat.le_trans (Nat.le_trans (Nat.le_trans (Nat.le_trans (Nat.le_trans Z0 K5.1) E47.1) K48.1) E75.1) K76.1) G76_1) hZ48 (hw _ (List.mem_of_getElem? (i := 44) rfl)) (hw _ (List.mem_of_getElem? (i := 14) rfl)) (by decide) (by decide)) q77a q77c (g := (mkF m 159 #[.val (.int p1), .val (.int p2), .val (.int p3), .val (.int p4), .val (.int (0 : Int32)), .val (.int z4), .val (.ref b6), .val (.ref b47), .val (.ref b49), .val (.ref b6), .val (.int z70), .val (.int z72), .val (.int z74), .val .null, .val (.ref b75), .unset] [(.ref b75)])) rfl (by rw [hml]; rfl) (Steps.refl _) (argsL := []) (rest := []) (lenOf pd0_2 rfl) rfl (by show 2 * 0 + _ ≤ _; exact Nat.le_of_eq rfl) (hb hby at_159) (fun _ _ => ⟨rfl, rfl, (by decide : 9 + 0 ≤ _), (by decide : 39 + 0 ≤ _)⟩)
        dsimp only [Pt.U, Pt.locs, Pt.cells, Pt.slots] at X77 l77 y77 z77 st77 hQ77
        subst l77 y77 z77
        obtain ⟨rfl, N77q, e77⟩ := hQ77
        have N77 := Fr.app N76 N77q
        refine goT st77 ?_
        show Go p.tables e below T77 (mkF m 162 #[.val (.int p1), .val (.int p2), .val (.int p3), .val (.int p4), .val (.int (0 : Int32)), .val (.int z4), .val (.ref b6), .val (.ref b47), .val (.ref b49), .val (.ref b6), .val (.int z70), .val (.int z72), .val (.int z74), .val .null, .val (.ref b75), .unset] [(.int (1 : Int32))]) _
        refine go1 (fun _ => XS.iload X77.here hx rfl (hb hby at_162) rfl) ?_
        show Go p.tables e below T77 (mkF m 164 #[.val (.int p1), .val (.int p2), .val (.int p3), .val (.int p4), .val (.int (0 : Int32)), .val (.int z4), .val (.ref b6), .val (.ref b47), .val (.ref b49), .val (.ref b6), .val (.int z70), .val (.int z72), .val (.int z74), .val .null, .val (.ref b75), .unset] [(.int (0 : Int32)), (.int (1 : Int32))]) _
        refine go1 (fun _ => XS.ifNo X77.here hx rfl (hb hby at_164) rfl ((if0 _ _).trans (teq (by decide : (0 : Int32) = (0 : Int32))).2)) ?_
        show Go p.tables e below T77 (mkF m 167 #[.val (.int p1), .val (.int p2), .val (.int p3), .val (.int p4), .val (.int (0 : Int32)), .val (.int z4), .val (.ref b6), .val (.ref b47), .val (.ref b49), .val (.ref b6), .val (.int z70), .val (.int z72), .val (.int z74), .val .null, .val (.ref b75), .unset] [(.int (1 : Int32))]) _
        refine go1 (fun _ => XS.iconst X77.here hx rfl (hb hby at_167)) ?_
        show Go p.tables e below T77 (mkF m 168 #[.val (.int p1), .val (.int p2), .val (.int p3), .val (.int p4), .val (.int (0 : Int32)), .val (.int z4), .val (.ref b6), .val (.ref b47), .val (.ref b49), .val (.ref b6), .val (.int z70), .val (.int z72), .val (.int z74), .val .null, .val (.ref b75), .unset] [(.int (1 : Int32)), (.int (1 : Int32))]) _
        refine go1 (fun _ => XS.goto X77.here hx rfl (pc0 := 168) (pc' := 172) rfl (hb hby at_168) (by decide) (by decide)) ?_
        show Go p.tables e below T77 (mkF m 172 #[.val (.int p1), .val (.int p2), .val (.int p3), .val (.int p4), .val (.int (0 : Int32)), .val (.int z4), .val (.ref b6), .val (.ref b47), .val (.ref b49), .val (.ref b6), .val (.int z70), .val (.int z72), .val (.int z74), .val .null, .val (.ref b75), .unset] [(.int (1 : Int32)), (.int (1 : Int32))]) _
        refine go1 (fun _ => XS.icmpNo X77.here hx rfl (hb hby at_172) rfl (teq (by decide : (1 : Int32) = (1 : Int32))).2) ?_
        show Go p.tables e below T77 (mkF m 175 #[.val (.int p1), .val (.int p2), .val (.int p3), .val (.int p4), .val (.int (0 : Int32)), .val (.int z4), .val (.ref b6), .val (.ref b47), .val (.ref b49), .val (.ref b6), .val (.int z70), .val (.int z72), .val (.int z74), .val .null, .val (.ref b75), .unset] []) _
        refine go1 (fun _ => XS.iconst X77.here hx rfl (hb hby at_175)) ?_
        show Go p.tables e below T77 (mkF m 176 #[.val (.int p1), .val (.int p2), .val (.int p3), .val (.int p4), .val (.int (0 : Int32)), .val (.int z4), .val (.ref b6), .val (.ref b47), .val (.ref b49), .val (.ref b6), .val (.int z70), .val (.int z72), .val (.int z74), .val .null, .val (.ref b75), .unset] [(.int (1 : Int32))]) _
        refine go1 (fun _ => XS.goto X77.here hx rfl (pc0 := 176) (pc' := 180) rfl (hb hby at_176) (by decide) (by decide)) ?_
        show Go p.tables e below T77 (mkF m 180 #[.val (.int p1), .val (.int p2), .val (.int p3), .val (.int p4), .val (.int (0 : Int32)), .val (.int z4), .val (.ref b6), .val (.ref b47), .val (.ref b49), .val (.ref b6), .val (.int z70), .val (.int z72), .val (.int z74), .val .null, .val (.ref b75), .unset] [(.int (1 : Int32))]) _
        refine go1 (fun _ => XS.istore X77.here hx rfl (hb hby at_180) rfl (l' := #[.val (.int p1), .val (.int p2), .val (.int p3), .val (.int p4), .val (.int (0 : Int32)), .val (.int z4), .val (.ref b6), .val (.ref b47), .val (.ref b49), .val (.ref b6), .val (.int z70), .val (.int z72), .val (.int z74), .val .null, .val (.ref b75), .val (.int (1 : Int32))]) rfl) ?_
        show Go p.tables e below T77 (mkF m 182 #[.val (.int p1), .val (.int p2), .val (.int p3), .val (.int p4), .val (.int (0 : Int32)), .val (.int z4), .val (.ref b6), .val (.ref b47), .val (.ref b49), .val (.ref b6), .val (.int z70), .val (.int z72), .val (.int z74), .val .null, .val (.ref b75), .val (.int (1 : Int32))] []) _
        refine go1 (fun _ => XS.iload X77.here hx rfl (hb hby at_182) rfl) ?_
        show Go p.tables e below T77 (mkF m 184 #[.val (.int p1), .val (.int p2), .val (.int p3), .val (.int p4), .val (.int (0 : Int32)), .val (.int z4), .val (.ref b6), .val (.ref b47), .val (.ref b49), .val (.ref b6), .val (.int z70), .val (.int z72), .val (.int z74), .val .null, .val (.ref b75), .val (.int (1 : Int32))] [(.int (1 : Int32))]) _
        refine go1 (fun _ => XS.ifNo X77.here hx rfl (hb hby at_184) rfl ((if0 _ _).trans (feq (by decide : ¬ ((1 : Int32) = (0 : Int32)))).1)) ?_
        show Go p.tables e below T77 (mkF m 187 #[.val (.int p1), .val (.int p2), .val (.int p3), .val (.int p4), .val (.int (0 : Int32)), .val (.int z4), .val (.ref b6), .val (.ref b47), .val (.ref b49), .val (.ref b6), .val (.int z70), .val (.int z72), .val (.int z74), .val .null, .val (.ref b75), .val (.int (1 : Int32))] []) _
        refine go1 (fun _ => XS.aload X77.here hx rfl (hb hby at_187) rfl rfl) ?_
        show Go p.tables e below T77 (mkF m 189 #[.val (.int p1), .val (.int p2), .val (.int p3), .val (.int p4), .val (.int (0 : Int32)), .val (.int z4), .val (.ref b6), .val (.ref b47), .val (.ref b49), .val (.ref b6), .val (.int z70), .val (.int z72), .val (.int z74), .val .null, .val (.ref b75), .val (.int (1 : Int32))] [(.ref b47)]) _
        refine go1 (fun _ => XS.aload X77.here hx rfl (hb hby at_189) rfl rfl) ?_
        show Go p.tables e below T77 (mkF m 191 #[.val (.int p1), .val (.int p2), .val (.int p3), .val (.int p4), .val (.int (0 : Int32)), .val (.int z4), .val (.ref b6), .val (.ref b47), .val (.ref b49), .val (.ref b6), .val (.int z70), .val (.int z72), .val (.int z74), .val .null, .val (.ref b75), .val (.int (1 : Int32))] [(.ref b49), (.ref b47)]) _
        obtain ⟨_, _, ⟨T78, L78, k78, n78⟩, -, X78, ⟨Lc78, hQ78, l78, y78, z78⟩, st78⟩ := Jvm.LawKit.callS X77 hx (y := (⟨"com/example/enrout/enrout/broker/cli/Option", "flag", "(Ljava/lang/String;Ljava/lang/String;)Lcom/example/enrout/enrout/broker/cli/Option;"⟩ : MethodName)) hown48 (mvT hZ48 (hw _ (List.mem_of_getElem? (i := 45) rfl))) (mvT hZ48 (hw _ (List.mem_of_getElem? (i := 46) rfl))) (mvT hZ48 (hw _ (List.mem_of_getElem? (i := 14) rfl))) (mvT hZ48 (hw _ (List.mem_of_getElem? (i := 47) rfl))) (by decide) (backOf (W := 0) (rm6 l Z a0 hw [] b47 b49 T76.heap n0 (Nat.le_trans (Nat.le_trans (Nat.le_trans (Nat.le_trans (Nat.le_trans Z0 K5.1) E47.1) K48.1) E75.1) K76.1) ) hZ48 (hw _ (List.mem_of_getElem? (i := 47) rfl)) (hw _ (List.mem_of_getElem? (i := 14) rfl)) (by decide) (by decide)) (g := (mkF m 191 #[.val (.int p1), .val (.int p2), .val (.int p3), .val (.int p4), .val (.int (0 : Int32)), .val (.int z4), .val (.ref b6), .val (.ref b47), .val (.ref b49), .val (.ref b6), .val (.int z70), .val (.int z72), .val (.int z74), .val .null, .val (.ref b75), .val (.int (1 : Int32))] [(.ref b49), (.ref b47)])) rfl (by rw [hml]; rfl) (argsL := [(.ref b47), (.ref b49)]) (rest := []) (lenOf pd0_3 rfl) rfl (by show 2 * 0 + _ ≤ _; exact Nat.le_of_eq rfl) (hb hby at_191) (fun _ _ => ⟨rfl, e77, (by decide : 9 + 1 ≤ _), (by decide : 39 + 7 ≤ _)⟩)
        dsimp only [Pt.U, Pt.locs, Pt.cells, Pt.slots] at X78 l78 y78 z78 st78 hQ78
        subst l78 y78 z78
        obtain ⟨b79, rfl, N78q, K78, G78_0, G78_1⟩ := hQ78
        have N78 := Fr.app N77 N78q
        refine go1 st78 ?_
        show Go p.tables e below T78 (mkF m 194 #[.val (.int p1), .val (.int p2), .val (.int p3), .val (.int p4), .val (.int (0 : Int32)), .val (.int z4), .val (.ref b6), .val (.ref b47), .val (.ref b49), .val (.ref b6), .val (.int z70), .val (.int z72), .val (.int z74), .val .null, .val (.ref b75), .val (.int (1 : Int32))] [(.ref b79)]) _
        obtain ⟨cq80, kq80, q80a, q80b, q80c⟩ := isOf hZ48 rfl G78_0
        obtain ⟨_, _, ⟨T80, L80, k80, n80⟩, -, X80, ⟨Lc80, hQ80, l80, y80, z80⟩, st80⟩ := X78.virtualBack hx (y := (⟨"com/example/enrout/enrout/broker/cli/Option", "isFlag", "()Z"⟩ : MethodName)) (z := (⟨"com/example/enrout/enrout/broker/cli/Option", "isFlag", "()Z"⟩ : MethodName)) hown48 (mvT hZ48 (hw _ (List.mem_of_getElem? (i := 40) rfl))) (mvT hZ48 (hw _ (List.mem_of_getElem? (i := 41) rfl))) (notFace_of_selects (args := #[]) (mvT hZ48 (hw _ (List.mem_of_getElem? (i := 43) rfl)))) (mvT hZ48 (hw _ (List.mem_of_getElem? (i := 43) rfl))) (mvT hZ48 (hw _ (List.mem_of_getElem? (i := 42) rfl))) (by decide) (backOf (W := 0) (rmisa l Z a0 hw [] b79 T78.heap n0 (Nat.le_trans (Nat.le_trans (Nat.le_trans (Nat.le_trans (Nat.le_trans (Nat.le_trans Z0 K5.1) E47.1) K48.1) E75.1) K76.1) K78.1) G78_1) hZ48 (hw _ (List.mem_of_getElem? (i := 44) rfl)) (hw _ (List.mem_of_getElem? (i := 14) rfl)) (by decide) (by decide)) q80a q80c (g := (mkF m 194 #[.val (.int p1), .val (.int p2), .val (.int p3), .val (.int p4), .val (.int (0 : Int32)), .val (.int z4), .val (.ref b6), .val (.ref b47), .val (.ref b49), .val (.ref b6), .val (.int z70), .val (.int z72), .val (.int z74), .val .null, .val (.ref b75), .val (.int (1 : Int32))] [(.ref b79)])) rfl (by rw [hml]; rfl) (Steps.refl _) (argsL := []) (rest := []) (lenOf pd0_2 rfl) rfl (by show 2 * 0 + _ ≤ _; exact Nat.le_of_eq rfl) (hb hby at_194) (fun _ _ => ⟨rfl, rfl, (by decide : 10 + 0 ≤ _), (by decide : 46 + 0 ≤ _)⟩)
        dsimp only [Pt.U, Pt.locs, Pt.cells, Pt.slots] at X80 l80 y80 z80 st80 hQ80
        subst l80 y80 z80
        obtain ⟨rfl, N80q, e80⟩ := hQ80
        have N80 := Fr.app N78 N80q
        refine goT st80 ?_
        show Go p.tables e below T80 (mkF m 197 #[.val (.int p1), .val (.int p2), .val (.int p3), .val (.int p4), .val (.int (0 : Int32)), .val (.int z4), .val (.ref b6), .val (.ref b47), .val (.ref b49), .val (.ref b6), .val (.int z70), .val (.int z72), .val (.int z74), .val .null, .val (.ref b75), .val (.int (1 : Int32))] [(.int (1 : Int32))]) _
        refine go1 (fun _ => XS.ifNo X80.here hx rfl (hb hby at_197) rfl ((if0 _ _).trans (feq (by decide : ¬ ((1 : Int32) = (0 : Int32)))).1)) ?_
        show Go p.tables e below T80 (mkF m 200 #[.val (.int p1), .val (.int p2), .val (.int p3), .val (.int p4), .val (.int (0 : Int32)), .val (.int z4), .val (.ref b6), .val (.ref b47), .val (.ref b49), .val (.ref b6), .val (.int z70), .val (.int z72), .val (.int z74), .val .null, .val (.ref b75), .val (.int (1 : Int32))] []) _
        refine go1 (fun _ => XS.iconst X80.here hx rfl (hb hby at_200)) ?_
        show Go p.tables e below T80 (mkF m 201 #[.val (.int p1), .val (.int p2), .val (.int p3), .val (.int p4), .val (.int (0 : Int32)), .val (.int z4), .val (.ref b6), .val (.ref b47), .val (.ref b49), .val (.ref b6), .val (.int z70), .val (.int z72), .val (.int z74), .val .null, .val (.ref b75), .val (.int (1 : Int32))] [(.int (1 : Int32))]) _
        refine go1 (fun _ => XS.goto X80.here hx rfl (pc0 := 201) (pc' := 205) rfl (hb hby at_201) (by decide) (by decide)) ?_
        show Go p.tables e below T80 (mkF m 205 #[.val (.int p1), .val (.int p2), .val (.int p3), .val (.int p4), .val (.int (0 : Int32)), .val (.int z4), .val (.ref b6), .val (.ref b47), .val (.ref b49), .val (.ref b6), .val (.int z70), .val (.int z72), .val (.int z74), .val .null, .val (.ref b75), .val (.int (1 : Int32))] [(.int (1 : Int32))]) _
        refine go1 (fun _ => XS.istore X80.here hx rfl (hb hby at_205) rfl (l' := #[.val (.int p1), .val (.int p2), .val (.int p3), .val (.int p4), .val (.int (0 : Int32)), .val (.int z4), .val (.ref b6), .val (.ref b47), .val (.ref b49), .val (.ref b6), .val (.int z70), .val (.int z72), .val (.int z74), .val .null, .val (.ref b75), .val (.int (1 : Int32))]) rfl) ?_
        show Go p.tables e below T80 (mkF m 207 #[.val (.int p1), .val (.int p2), .val (.int p3), .val (.int p4), .val (.int (0 : Int32)), .val (.int z4), .val (.ref b6), .val (.ref b47), .val (.ref b49), .val (.ref b6), .val (.int z70), .val (.int z72), .val (.int z74), .val .null, .val (.ref b75), .val (.int (1 : Int32))] []) _
        refine go1 (fun _ => XS.iload X80.here hx rfl (hb hby at_207) rfl) ?_
        show Go p.tables e below T80 (mkF m 209 #[.val (.int p1), .val (.int p2), .val (.int p3), .val (.int p4), .val (.int (0 : Int32)), .val (.int z4), .val (.ref b6), .val (.ref b47), .val (.ref b49), .val (.ref b6), .val (.int z70), .val (.int z72), .val (.int z74), .val .null, .val (.ref b75), .val (.int (1 : Int32))] [(.int (1 : Int32))]) _
        refine go1 (fun _ => XS.ifNo X80.here hx rfl (hb hby at_209) rfl ((if0 _ _).trans (feq (by decide : ¬ ((1 : Int32) = (0 : Int32)))).1)) ?_
        show Go p.tables e below T80 (mkF m 212 #[.val (.int p1), .val (.int p2), .val (.int p3), .val (.int p4), .val (.int (0 : Int32)), .val (.int z4), .val (.ref b6), .val (.ref b47), .val (.ref b49), .val (.ref b6), .val (.int z70), .val (.int z72), .val (.int z74), .val .null, .val (.ref b75), .val (.int (1 : Int32))] []) _
        refine go1 (fun _ => XS.aload X80.here hx rfl (hb hby at_212) rfl rfl) ?_
        show Go p.tables e below T80 (mkF m 214 #[.val (.int p1), .val (.int p2), .val (.int p3), .val (.int p4), .val (.int (0 : Int32)), .val (.int z4), .val (.ref b6), .val (.ref b47), .val (.ref b49), .val (.ref b6), .val (.int z70), .val (.int z72), .val (.int z74), .val .null, .val (.ref b75), .val (.int (1 : Int32))] [(.ref b6)]) _
        refine go1 (fun _ => XS.aload X80.here hx rfl (hb hby at_214) rfl rfl) ?_
        show Go p.tables e below T80 (mkF m 216 #[.val (.int p1), .val (.int p2), .val (.int p3), .val (.int p4), .val (.int (0 : Int32)), .val (.int z4), .val (.ref b6), .val (.ref b47), .val (.ref b49), .val (.ref b6), .val (.int z70), .val (.int z72), .val (.int z74), .val .null, .val (.ref b75), .val (.int (1 : Int32))] [(.ref b49), (.ref b6)]) _
        obtain ⟨_, _, ⟨T81, L81, k81, n81⟩, -, X81, ⟨Lc81, hQ81, l81, y81, z81⟩, st81⟩ := Jvm.LawKit.callS X80 hx (y := (⟨"com/example/enrout/enrout/broker/cli/Option", "operand", "(Ljava/lang/String;Ljava/lang/String;)Lcom/example/enrout/enrout/broker/cli/Option;"⟩ : MethodName)) hown48 (mvT hZ48 (hw _ (List.mem_of_getElem? (i := 50) rfl))) (mvT hZ48 (hw _ (List.mem_of_getElem? (i := 51) rfl))) (mvT hZ48 (hw _ (List.mem_of_getElem? (i := 14) rfl))) (mvT hZ48 (hw _ (List.mem_of_getElem? (i := 52) rfl))) (by decide) (backOf (W := 0) (rm7 l Z a0 hw [] b6 b49 T78.heap n0 (Nat.le_trans (Nat.le_trans (Nat.le_trans (Nat.le_trans (Nat.le_trans (Nat.le_trans Z0 K5.1) E47.1) K48.1) E75.1) K76.1) K78.1) ) hZ48 (hw _ (List.mem_of_getElem? (i := 52) rfl)) (hw _ (List.mem_of_getElem? (i := 14) rfl)) (by decide) (by decide)) (g := (mkF m 216 #[.val (.int p1), .val (.int p2), .val (.int p3), .val (.int p4), .val (.int (0 : Int32)), .val (.int z4), .val (.ref b6), .val (.ref b47), .val (.ref b49), .val (.ref b6), .val (.int z70), .val (.int z72), .val (.int z74), .val .null, .val (.ref b75), .val (.int (1 : Int32))] [(.ref b49), (.ref b6)])) rfl (by rw [hml]; rfl) (argsL := [(.ref b6), (.ref b49)]) (rest := []) (lenOf pd0_3 rfl) rfl (by show 2 * 0 + _ ≤ _; exact Nat.le_of_eq rfl) (hb hby at_216) (fun _ _ => ⟨rfl, e80, (by decide : 10 + 1 ≤ _), (by decide : 46 + 7 ≤ _)⟩)
        dsimp only [Pt.U, Pt.locs, Pt.cells, Pt.slots] at X81 l81 y81 z81 st81 hQ81
        subst l81 y81 z81
        obtain ⟨b82, rfl, N81q, K81, G81_0, G81_1⟩ := hQ81
        have N81 := Fr.app N80 N81q
        refine go1 st81 ?_
        show Go p.tables e below T81 (mkF m 219 #[.val (.int p1), .val (.int p2), .val (.int p3), .val (.int p4), .val (.int (0 : Int32)), .val (.int z4), .val (.ref b6), .val (.ref b47), .val (.ref b49), .val (.ref b6), .val (.int z70), .val (.int z72), .val (.int z74), .val .null, .val (.ref b75), .val (.int (1 : Int32))] [(.ref b82)]) _
        obtain ⟨cq83, kq83, q83a, q83b, q83c⟩ := isOf hZ48 rfl G81_0
        obtain ⟨_, _, ⟨T83, L83, k83, n83⟩, -, X83, ⟨Lc83, hQ83, l83, y83, z83⟩, st83⟩ := X81.virtualBack hx (y := (⟨"com/example/enrout/enrout/broker/cli/Option", "isFlag", "()Z"⟩ : MethodName)) (z := (⟨"com/example/enrout/enrout/broker/cli/Option", "isFlag", "()Z"⟩ : MethodName)) hown48 (mvT hZ48 (hw _ (List.mem_of_getElem? (i := 40) rfl))) (mvT hZ48 (hw _ (List.mem_of_getElem? (i := 41) rfl))) (notFace_of_selects (args := #[]) (mvT hZ48 (hw _ (List.mem_of_getElem? (i := 43) rfl)))) (mvT hZ48 (hw _ (List.mem_of_getElem? (i := 43) rfl))) (mvT hZ48 (hw _ (List.mem_of_getElem? (i := 42) rfl))) (by decide) (backOf (W := 0) (rmisb l Z a0 hw [] b82 b6 T81.heap n0 (Nat.le_trans (Nat.le_trans (Nat.le_trans (Nat.le_trans (Nat.le_trans (Nat.le_trans (Nat.le_trans Z0 K5.1) E47.1) K48.1) E75.1) K76.1) K78.1) K81.1) G81_1) hZ48 (hw _ (List.mem_of_getElem? (i := 44) rfl)) (hw _ (List.mem_of_getElem? (i := 14) rfl)) (by decide) (by decide)) q83a q83c (g := (mkF m 219 #[.val (.int p1), .val (.int p2), .val (.int p3), .val (.int p4), .val (.int (0 : Int32)), .val (.int z4), .val (.ref b6), .val (.ref b47), .val (.ref b49), .val (.ref b6), .val (.int z70), .val (.int z72), .val (.int z74), .val .null, .val (.ref b75), .val (.int (1 : Int32))] [(.ref b82)])) rfl (by rw [hml]; rfl) (Steps.refl _) (argsL := []) (rest := []) (lenOf pd0_2 rfl) rfl (by show 2 * 0 + _ ≤ _; exact Nat.le_of_eq rfl) (hb hby at_219) (fun _ _ => ⟨rfl, rfl, (by decide : 11 + 0 ≤ _), (by decide : 53 + 0 ≤ _)⟩)
        dsimp only [Pt.U, Pt.locs, Pt.cells, Pt.slots] at X83 l83 y83 z83 st83 hQ83
        subst l83 y83 z83
        obtain ⟨rfl, N83q, e83⟩ := hQ83
        have N83 := Fr.app N81 N83q
        refine goT st83 ?_
        show Go p.tables e below T83 (mkF m 222 #[.val (.int p1), .val (.int p2), .val (.int p3), .val (.int p4), .val (.int (0 : Int32)), .val (.int z4), .val (.ref b6), .val (.ref b47), .val (.ref b49), .val (.ref b6), .val (.int z70), .val (.int z72), .val (.int z74), .val .null, .val (.ref b75), .val (.int (1 : Int32))] [(.int (0 : Int32))]) _
        refine go1 (fun _ => XS.ifNo X83.here hx rfl (hb hby at_222) rfl ((if0 _ _).trans (teq (by decide : (0 : Int32) = (0 : Int32))).2)) ?_
        show Go p.tables e below T83 (mkF m 225 #[.val (.int p1), .val (.int p2), .val (.int p3), .val (.int p4), .val (.int (0 : Int32)), .val (.int z4), .val (.ref b6), .val (.ref b47), .val (.ref b49), .val (.ref b6), .val (.int z70), .val (.int z72), .val (.int z74), .val .null, .val (.ref b75), .val (.int (1 : Int32))] []) _
        refine go1 (fun _ => XS.iconst X83.here hx rfl (hb hby at_225)) ?_
        show Go p.tables e below T83 (mkF m 226 #[.val (.int p1), .val (.int p2), .val (.int p3), .val (.int p4), .val (.int (0 : Int32)), .val (.int z4), .val (.ref b6), .val (.ref b47), .val (.ref b49), .val (.ref b6), .val (.int z70), .val (.int z72), .val (.int z74), .val .null, .val (.ref b75), .val (.int (1 : Int32))] [(.int (1 : Int32))]) _
        refine go1 (fun _ => XS.goto X83.here hx rfl (pc0 := 226) (pc' := 230) rfl (hb hby at_226) (by decide) (by decide)) ?_
        show Go p.tables e below T83 (mkF m 230 #[.val (.int p1), .val (.int p2), .val (.int p3), .val (.int p4), .val (.int (0 : Int32)), .val (.int z4), .val (.ref b6), .val (.ref b47), .val (.ref b49), .val (.ref b6), .val (.int z70), .val (.int z72), .val (.int z74), .val .null, .val (.ref b75), .val (.int (1 : Int32))] [(.int (1 : Int32))]) _
        refine go1 (fun _ => XS.istore X83.here hx rfl (hb hby at_230) rfl (l' := #[.val (.int p1), .val (.int p2), .val (.int p3), .val (.int p4), .val (.int (0 : Int32)), .val (.int z4), .val (.ref b6), .val (.ref b47), .val (.ref b49), .val (.ref b6), .val (.int z70), .val (.int z72), .val (.int z74), .val .null, .val (.ref b75), .val (.int (1 : Int32))]) rfl) ?_
        show Go p.tables e below T83 (mkF m 232 #[.val (.int p1), .val (.int p2), .val (.int p3), .val (.int p4), .val (.int (0 : Int32)), .val (.int z4), .val (.ref b6), .val (.ref b47), .val (.ref b49), .val (.ref b6), .val (.int z70), .val (.int z72), .val (.int z74), .val .null, .val (.ref b75), .val (.int (1 : Int32))] []) _
        refine go1 (fun _ => XS.iload X83.here hx rfl (hb hby at_232) rfl) ?_
        show Go p.tables e below T83 (mkF m 234 #[.val (.int p1), .val (.int p2), .val (.int p3), .val (.int p4), .val (.int (0 : Int32)), .val (.int z4), .val (.ref b6), .val (.ref b47), .val (.ref b49), .val (.ref b6), .val (.int z70), .val (.int z72), .val (.int z74), .val .null, .val (.ref b75), .val (.int (1 : Int32))] [(.int (1 : Int32))]) _
        refine go1 (fun _ => XS.ifNo X83.here hx rfl (hb hby at_234) rfl ((if0 _ _).trans (feq (by decide : ¬ ((1 : Int32) = (0 : Int32)))).1)) ?_
        show Go p.tables e below T83 (mkF m 237 #[.val (.int p1), .val (.int p2), .val (.int p3), .val (.int p4), .val (.int (0 : Int32)), .val (.int z4), .val (.ref b6), .val (.ref b47), .val (.ref b49), .val (.ref b6), .val (.int z70), .val (.int z72), .val (.int z74), .val .null, .val (.ref b75), .val (.int (1 : Int32))] []) _
        refine go1 (fun _ => XS.aload X83.here hx rfl (hb hby at_237) rfl rfl) ?_
        show Go p.tables e below T83 (mkF m 239 #[.val (.int p1), .val (.int p2), .val (.int p3), .val (.int p4), .val (.int (0 : Int32)), .val (.int z4), .val (.ref b6), .val (.ref b47), .val (.ref b49), .val (.ref b6), .val (.int z70), .val (.int z72), .val (.int z74), .val .null, .val (.ref b75), .val (.int (1 : Int32))] [(.ref b47)]) _
        refine go1 (fun _ => XS.aload X83.here hx rfl (hb hby at_239) rfl rfl) ?_
        show Go p.tables e below T83 (mkF m 241 #[.val (.int p1), .val (.int p2), .val (.int p3), .val (.int p4), .val (.int (0 : Int32)), .val (.int z4), .val (.ref b6), .val (.ref b47), .val (.ref b49), .val (.ref b6), .val (.int z70), .val (.int z72), .val (.int z74), .val .null, .val (.ref b75), .val (.int (1 : Int32))] [(.ref b6), (.ref b47)]) _
        refine go1 (fun _ => XS.aload X83.here hx rfl (hb hby at_241) rfl rfl) ?_
        show Go p.tables e below T83 (mkF m 243 #[.val (.int p1), .val (.int p2), .val (.int p3), .val (.int p4), .val (.int (0 : Int32)), .val (.int z4), .val (.ref b6), .val (.ref b47), .val (.ref b49), .val (.ref b6), .val (.int z70), .val (.int z72), .val (.int z74), .val .null, .val (.ref b75), .val (.int (1 : Int32))] [(.ref b49), (.ref b6), (.ref b47)]) _
        obtain ⟨_, _, ⟨T84, L84, k84, n84⟩, -, X84, ⟨Lc84, hQ84, l84, y84, z84⟩, st84⟩ := Jvm.LawKit.callS X83 hx (y := (⟨"com/example/enrout/enrout/broker/cli/Option", "optional", "(Ljava/lang/String;Ljava/lang/String;Ljava/lang/String;)Lcom/example/enrout/enrout/broker/cli/Option;"⟩ : MethodName)) hown48 (mvT hZ48 (hw _ (List.mem_of_getElem? (i := 53) rfl))) (mvT hZ48 (hw _ (List.mem_of_getElem? (i := 54) rfl))) (mvT hZ48 (hw _ (List.mem_of_getElem? (i := 14) rfl))) (mvT hZ48 (hw _ (List.mem_of_getElem? (i := 55) rfl))) (by decide) (backOf (W := 0) (rm8 l Z a0 hw [] b47 b6 b49 T81.heap n0 (Nat.le_trans (Nat.le_trans (Nat.le_trans (Nat.le_trans (Nat.le_trans (Nat.le_trans (Nat.le_trans Z0 K5.1) E47.1) K48.1) E75.1) K76.1) K78.1) K81.1) ) hZ48 (hw _ (List.mem_of_getElem? (i := 55) rfl)) (hw _ (List.mem_of_getElem? (i := 14) rfl)) (by decide) (by decide)) (g := (mkF m 243 #[.val (.int p1), .val (.int p2), .val (.int p3), .val (.int p4), .val (.int (0 : Int32)), .val (.int z4), .val (.ref b6), .val (.ref b47), .val (.ref b49), .val (.ref b6), .val (.int z70), .val (.int z72), .val (.int z74), .val .null, .val (.ref b75), .val (.int (1 : Int32))] [(.ref b49), (.ref b6), (.ref b47)])) rfl (by rw [hml]; rfl) (argsL := [(.ref b47), (.ref b6), (.ref b49)]) (rest := []) (lenOf pd0_4 rfl) rfl (by show 2 * 0 + _ ≤ _; exact Nat.le_of_eq rfl) (hb hby at_243) (fun _ _ => ⟨rfl, e83, (by decide : 11 + 1 ≤ _), (by decide : 53 + 7 ≤ _)⟩)
        dsimp only [Pt.U, Pt.locs, Pt.cells, Pt.slots] at X84 l84 y84 z84 st84 hQ84
        subst l84 y84 z84
        obtain ⟨b85, rfl, N84q, K84, G84_0, G84_1⟩ := hQ84
        have N84 := Fr.app N83 N84q
        refine go1 st84 ?_
        show Go p.tables e below T84 (mkF m 246 #[.val (.int p1), .val (.int p2), .val (.int p3), .val (.int p4), .val (.int (0 : Int32)), .val (.int z4), .val (.ref b6), .val (.ref b47), .val (.ref b49), .val (.ref b6), .val (.int z70), .val (.int z72), .val (.int z74), .val .null, .val (.ref b75), .val (.int (1 : Int32))] [(.ref b85)]) _
        obtain ⟨cq86, kq86, q86a, q86b, q86c⟩ := isOf hZ48 rfl G84_0
        obtain ⟨_, _, ⟨T86, L86, k86, n86⟩, -, X86, ⟨Lc86, hQ86, l86, y86, z86⟩, st86⟩ := X84.virtualBack hx (y := (⟨"com/example/enrout/enrout/broker/cli/Option", "isFlag", "()Z"⟩ : MethodName)) (z := (⟨"com/example/enrout/enrout/broker/cli/Option", "isFlag", "()Z"⟩ : MethodName)) hown48 (mvT hZ48 (hw _ (List.mem_of_getElem? (i := 40) rfl))) (mvT hZ48 (hw _ (List.mem_of_getElem? (i := 41) rfl))) (notFace_of_selects (args := #[]) (mvT hZ48 (hw _ (List.mem_of_getElem? (i := 43) rfl)))) (mvT hZ48 (hw _ (List.mem_of_getElem? (i := 43) rfl))) (mvT hZ48 (hw _ (List.mem_of_getElem? (i := 42) rfl))) (by decide) (backOf (W := 0) (rmisb l Z a0 hw [] b85 b6 T84.heap n0 (Nat.le_trans (Nat.le_trans (Nat.le_trans (Nat.le_trans (Nat.le_trans (Nat.le_trans (Nat.le_trans (Nat.le_trans Z0 K5.1) E47.1) K48.1) E75.1) K76.1) K78.1) K81.1) K84.1) G84_1) hZ48 (hw _ (List.mem_of_getElem? (i := 44) rfl)) (hw _ (List.mem_of_getElem? (i := 14) rfl)) (by decide) (by decide)) q86a q86c (g := (mkF m 246 #[.val (.int p1), .val (.int p2), .val (.int p3), .val (.int p4), .val (.int (0 : Int32)), .val (.int z4), .val (.ref b6), .val (.ref b47), .val (.ref b49), .val (.ref b6), .val (.int z70), .val (.int z72), .val (.int z74), .val .null, .val (.ref b75), .val (.int (1 : Int32))] [(.ref b85)])) rfl (by rw [hml]; rfl) (Steps.refl _) (argsL := []) (rest := []) (lenOf pd0_2 rfl) rfl (by show 2 * 0 + _ ≤ _; exact Nat.le_of_eq rfl) (hb hby at_246) (fun _ _ => ⟨rfl, rfl, (by decide : 12 + 0 ≤ _), (by decide : 60 + 0 ≤ _)⟩)
        dsimp only [Pt.U, Pt.locs, Pt.cells, Pt.slots] at X86 l86 y86 z86 st86 hQ86
        subst l86 y86 z86
        obtain ⟨rfl, N86q, e86⟩ := hQ86
        have N86 := Fr.app N84 N86q
        refine goT st86 ?_
        show Go p.tables e below T86 (mkF m 249 #[.val (.int p1), .val (.int p2), .val (.int p3), .val (.int p4), .val (.int (0 : Int32)), .val (.int z4), .val (.ref b6), .val (.ref b47), .val (.ref b49), .val (.ref b6), .val (.int z70), .val (.int z72), .val (.int z74), .val .null, .val (.ref b75), .val (.int (1 : Int32))] [(.int (0 : Int32))]) _
        refine go1 (fun _ => XS.ifNo X86.here hx rfl (hb hby at_249) rfl ((if0 _ _).trans (teq (by decide : (0 : Int32) = (0 : Int32))).2)) ?_
        show Go p.tables e below T86 (mkF m 252 #[.val (.int p1), .val (.int p2), .val (.int p3), .val (.int p4), .val (.int (0 : Int32)), .val (.int z4), .val (.ref b6), .val (.ref b47), .val (.ref b49), .val (.ref b6), .val (.int z70), .val (.int z72), .val (.int z74), .val .null, .val (.ref b75), .val (.int (1 : Int32))] []) _
        refine go1 (fun _ => XS.iconst X86.here hx rfl (hb hby at_252)) ?_
        show Go p.tables e below T86 (mkF m 253 #[.val (.int p1), .val (.int p2), .val (.int p3), .val (.int p4), .val (.int (0 : Int32)), .val (.int z4), .val (.ref b6), .val (.ref b47), .val (.ref b49), .val (.ref b6), .val (.int z70), .val (.int z72), .val (.int z74), .val .null, .val (.ref b75), .val (.int (1 : Int32))] [(.int (1 : Int32))]) _
        refine go1 (fun _ => XS.goto X86.here hx rfl (pc0 := 253) (pc' := 257) rfl (hb hby at_253) (by decide) (by decide)) ?_
        show Go p.tables e below T86 (mkF m 257 #[.val (.int p1), .val (.int p2), .val (.int p3), .val (.int p4), .val (.int (0 : Int32)), .val (.int z4), .val (.ref b6), .val (.ref b47), .val (.ref b49), .val (.ref b6), .val (.int z70), .val (.int z72), .val (.int z74), .val .null, .val (.ref b75), .val (.int (1 : Int32))] [(.int (1 : Int32))]) _
        refine go1 (fun _ => XS.istore X86.here hx rfl (hb hby at_257) rfl (l' := #[.val (.int p1), .val (.int p2), .val (.int p3), .val (.int p4), .val (.int (0 : Int32)), .val (.int z4), .val (.ref b6), .val (.ref b47), .val (.ref b49), .val (.ref b6), .val (.int z70), .val (.int z72), .val (.int z74), .val .null, .val (.ref b75), .val (.int (1 : Int32))]) rfl) ?_
        show Go p.tables e below T86 (mkF m 259 #[.val (.int p1), .val (.int p2), .val (.int p3), .val (.int p4), .val (.int (0 : Int32)), .val (.int z4), .val (.ref b6), .val (.ref b47), .val (.ref b49), .val (.ref b6), .val (.int z70), .val (.int z72), .val (.int z74), .val .null, .val (.ref b75), .val (.int (1 : Int32))] []) _
        refine go1 (fun _ => XS.iload X86.here hx rfl (hb hby at_259) rfl) ?_
        show Go p.tables e below T86 (mkF m 261 #[.val (.int p1), .val (.int p2), .val (.int p3), .val (.int p4), .val (.int (0 : Int32)), .val (.int z4), .val (.ref b6), .val (.ref b47), .val (.ref b49), .val (.ref b6), .val (.int z70), .val (.int z72), .val (.int z74), .val .null, .val (.ref b75), .val (.int (1 : Int32))] [(.int (1 : Int32))]) _
        refine goRW (s := s) (vm₁ := T48.vm) X86 hS48 (by rw [e86]; exact (Nat.le_trans (Nat.le_trans (Nat.le_trans (Nat.le_trans (Nat.le_trans (Nat.le_refl _) E75.1) K76.1) K78.1) K81.1) K84.1)) (BodyLoose.notSynchronized Bd) (v := (some (.int (1 : Int32)))) (fun h => by rw [Bd.returns] at h; cases h) (Q0 Z p1 p2 p3 p4 a_COMPACT_STRINGS h0 n0) (fun fs hr => retN X86 hx (t := .boolean) Bd.returns (by simp) (hb hby at_261) hr) (by decide) (by decide) ?_
        show Q0 Z p1 p2 p3 p4 a_COMPACT_STRINGS h0 n0 _ T86.heap _
        rw [e86]
        exact ⟨rfl, N86⟩
  · skip
    refine go1 (fun _ => XS.ifNo X0.here hx rfl (hb hby at_3) rfl ((if0 _ _).trans (feq hc1).1)) ?_
    show Go p.tables e below s₁ (mkF m 6 #[.val (.int p1), .val (.int p2), .val (.int p3), .val (.int p4), .unset, .unset, .unset, .unset, .unset, .unset, .unset, .unset, .unset, .unset, .unset, .unset] []) _
    refine go1 (fun _ => XS.iconst X0.here hx rfl (hb hby at_6)) ?_
    show Go p.tables e below s₁ (mkF m 7 #[.val (.int p1), .val (.int p2), .val (.int p3), .val (.int p4), .unset, .unset, .unset, .unset, .unset, .unset, .unset, .unset, .unset, .unset, .unset, .unset] [(.int (1 : Int32))]) _
    refine go1 (fun _ => XS.goto X0.here hx rfl (pc0 := 7) (pc' := 11) rfl (hb hby at_7) (by decide) (by decide)) ?_
    show Go p.tables e below s₁ (mkF m 11 #[.val (.int p1), .val (.int p2), .val (.int p3), .val (.int p4), .unset, .unset, .unset, .unset, .unset, .unset, .unset, .unset, .unset, .unset, .unset, .unset] [(.int (1 : Int32))]) _
    refine go1 (fun _ => XS.istore X0.here hx rfl (hb hby at_11) rfl (l' := #[.val (.int p1), .val (.int p2), .val (.int p3), .val (.int p4), .val (.int (1 : Int32)), .unset, .unset, .unset, .unset, .unset, .unset, .unset, .unset, .unset, .unset, .unset]) rfl) ?_
    show Go p.tables e below s₁ (mkF m 13 #[.val (.int p1), .val (.int p2), .val (.int p3), .val (.int p4), .val (.int (1 : Int32)), .unset, .unset, .unset, .unset, .unset, .unset, .unset, .unset, .unset, .unset, .unset] []) _
    refine go1 (fun _ => XS.iloadN X0.here hx rfl (hb hby at_13) rfl) ?_
    show Go p.tables e below s₁ (mkF m 14 #[.val (.int p1), .val (.int p2), .val (.int p3), .val (.int p4), .val (.int (1 : Int32)), .unset, .unset, .unset, .unset, .unset, .unset, .unset, .unset, .unset, .unset, .unset] [(.int p1)]) _
    refine go1 (fun _ => XS.iconst X0.here hx rfl (hb hby at_14)) ?_
    show Go p.tables e below s₁ (mkF m 15 #[.val (.int p1), .val (.int p2), .val (.int p3), .val (.int p4), .val (.int (1 : Int32)), .unset, .unset, .unset, .unset, .unset, .unset, .unset, .unset, .unset, .unset, .unset] [(.int (1 : Int32)), (.int p1)]) _
    refine go1 (fun _ => XS.iushr X0.here hx rfl (hb hby at_15) rfl) ?_
    show Go p.tables e below s₁ (mkF m 16 #[.val (.int p1), .val (.int p2), .val (.int p3), .val (.int p4), .val (.int (1 : Int32)), .unset, .unset, .unset, .unset, .unset, .unset, .unset, .unset, .unset, .unset, .unset] [(.int ((p1.toUInt32 >>> ((1 : Int32) &&& 31).toUInt32).toInt32))]) _
    refine go1 (fun _ => XS.iconst X0.here hx rfl (hb hby at_16)) ?_
    show Go p.tables e below s₁ (mkF m 17 #[.val (.int p1), .val (.int p2), .val (.int p3), .val (.int p4), .val (.int (1 : Int32)), .unset, .unset, .unset, .unset, .unset, .unset, .unset, .unset, .unset, .unset, .unset] [(.int (3 : Int32)), (.int ((p1.toUInt32 >>> ((1 : Int32) &&& 31).toUInt32).toInt32))]) _
    refine go1 (fun _ => XS.irem X0.here hx rfl (hb hby at_17) rfl (by decide)) ?_
    rw [irem_eq_mod ((p1.toUInt32 >>> ((1 : Int32) &&& 31).toUInt32).toInt32) (3 : Int32)]
    show Go p.tables e below s₁ (mkF m 18 #[.val (.int p1), .val (.int p2), .val (.int p3), .val (.int p4), .val (.int (1 : Int32)), .unset, .unset, .unset, .unset, .unset, .unset, .unset, .unset, .unset, .unset, .unset] [(.int (((p1.toUInt32 >>> ((1 : Int32) &&& 31).toUInt32).toInt32) % (3 : Int32)))]) _
    refine go1 (fun _ => XS.istore X0.here hx rfl (hb hby at_18) rfl (l' := #[.val (.int p1), .val (.int p2), .val (.int p3), .val (.int p4), .val (.int (1 : Int32)), .val (.int (((p1.toUInt32 >>> ((1 : Int32) &&& 31).toUInt32).toInt32) % (3 : Int32))), .unset, .unset, .unset, .unset, .unset, .unset, .unset, .unset, .unset, .unset]) rfl) ?_
    show Go p.tables e below s₁ (mkF m 20 #[.val (.int p1), .val (.int p2), .val (.int p3), .val (.int p4), .val (.int (1 : Int32)), .val (.int (((p1.toUInt32 >>> ((1 : Int32) &&& 31).toUInt32).toInt32) % (3 : Int32))), .unset, .unset, .unset, .unset, .unset, .unset, .unset, .unset, .unset, .unset] []) _
    obtain ⟨z87, hz87⟩ : ∃ z : Int32, z = (((p1.toUInt32 >>> ((1 : Int32) &&& 31).toUInt32).toInt32) % (3 : Int32)) := ⟨_, rfl⟩
    rw [← hz87]
    show Go p.tables e below s₁ (mkF m 20 #[.val (.int p1), .val (.int p2), .val (.int p3), .val (.int p4), .val (.int (1 : Int32)), .val (.int z87), .unset, .unset, .unset, .unset, .unset, .unset, .unset, .unset, .unset, .unset] []) _
    refine go1 (fun _ => XS.iload X0.here hx rfl (hb hby at_20) rfl) ?_
    show Go p.tables e below s₁ (mkF m 22 #[.val (.int p1), .val (.int p2), .val (.int p3), .val (.int p4), .val (.int (1 : Int32)), .val (.int z87), .unset, .unset, .unset, .unset, .unset, .unset, .unset, .unset, .unset, .unset] [(.int z87)]) _
    refine go1 (T' := s₁) (g' := (mkF m 30 #[.val (.int p1), .val (.int p2), .val (.int p3), .val (.int p4), .val (.int (1 : Int32)), .val (.int (if z87 < (0 : Int32) then (-z87) else z87)), .unset, .unset, .unset, .unset, .unset, .unset, .unset, .unset, .unset, .unset] [])) (fun t k => ?_) ?_
    · by_cases hd88 : z87 < (0 : Int32)
      · skip
        rw [(if_pos hd88 : (if z87 < (0 : Int32) then (-z87) else z87) = (-z87))] at k
        show Steps p.tables e below (s₁.setTop (mkF m 22 #[.val (.int p1), .val (.int p2), .val (.int p3), .val (.int p4), .val (.int (1 : Int32)), .val (.int z87), .unset, .unset, .unset, .unset, .unset, .unset, .unset, .unset, .unset, .unset] [(.int z87)])) _
        refine XS.ifNo X0.here hx rfl (hb hby at_22) rfl ((if0 _ _).trans (tlt hd88).2.1) ?_
        show Steps p.tables e below (s₁.setTop (mkF m 25 #[.val (.int p1), .val (.int p2), .val (.int p3), .val (.int p4), .val (.int (1 : Int32)), .val (.int z87), .unset, .unset, .unset, .unset, .unset, .unset, .unset, .unset, .unset, .unset] [])) _
        refine XS.iload X0.here hx rfl (hb hby at_25) rfl ?_
        show Steps p.tables e below (s₁.setTop (mkF m 27 #[.val (.int p1), .val (.int p2), .val (.int p3), .val (.int p4), .val (.int (1 : Int32)), .val (.int z87), .unset, .unset, .unset, .unset, .unset, .unset, .unset, .unset, .unset, .unset] [(.int z87)])) _
        refine XS.ineg X0.here hx rfl (hb hby at_27) rfl ?_
        show Steps p.tables e below (s₁.setTop (mkF m 28 #[.val (.int p1), .val (.int p2), .val (.int p3), .val (.int p4), .val (.int (1 : Int32)), .val (.int z87), .unset, .unset, .unset, .unset, .unset, .unset, .unset, .unset, .unset, .unset] [(.int (-z87))])) _
        refine XS.istore X0.here hx rfl (hb hby at_28) rfl (l' := #[.val (.int p1), .val (.int p2), .val (.int p3), .val (.int p4), .val (.int (1 : Int32)), .val (.int (-z87)), .unset, .unset, .unset, .unset, .unset, .unset, .unset, .unset, .unset, .unset]) rfl ?_
        show Steps p.tables e below (s₁.setTop (mkF m 30 #[.val (.int p1), .val (.int p2), .val (.int p3), .val (.int p4), .val (.int (1 : Int32)), .val (.int (-z87)), .unset, .unset, .unset, .unset, .unset, .unset, .unset, .unset, .unset, .unset] [])) _
        exact k
      · skip
        rw [(if_neg hd88 : (if z87 < (0 : Int32) then (-z87) else z87) = z87)] at k
        show Steps p.tables e below (s₁.setTop (mkF m 22 #[.val (.int p1), .val (.int p2), .val (.int p3), .val (.int p4), .val (.int (1 : Int32)), .val (.int z87), .unset, .unset, .unset, .unset, .unset, .unset, .unset, .unset, .unset, .unset] [(.int z87)])) _
        refine XS.ifYes X0.here hx rfl (pc0 := 22) (pc' := 30) rfl (hb hby at_22) rfl ((if0 _ _).trans (flt hd88).2.1) (by decide) (by decide) ?_
        show Steps p.tables e below (s₁.setTop (mkF m 30 #[.val (.int p1), .val (.int p2), .val (.int p3), .val (.int p4), .val (.int (1 : Int32)), .val (.int z87), .unset, .unset, .unset, .unset, .unset, .unset, .unset, .unset, .unset, .unset] [])) _
        exact k
    show Go p.tables e below s₁ (mkF m 30 #[.val (.int p1), .val (.int p2), .val (.int p3), .val (.int p4), .val (.int (1 : Int32)), .val (.int (if z87 < (0 : Int32) then (-z87) else z87)), .unset, .unset, .unset, .unset, .unset, .unset, .unset, .unset, .unset, .unset] []) _
    obtain ⟨z89, hz89⟩ : ∃ z : Int32, z = (if z87 < (0 : Int32) then (-z87) else z87) := ⟨_, rfl⟩
    rw [← hz89]
    show Go p.tables e below s₁ (mkF m 30 #[.val (.int p1), .val (.int p2), .val (.int p3), .val (.int p4), .val (.int (1 : Int32)), .val (.int z89), .unset, .unset, .unset, .unset, .unset, .unset, .unset, .unset, .unset, .unset] []) _
    refine go1 (fun _ => XS.iload X0.here hx rfl (hb hby at_30) rfl) ?_
    show Go p.tables e below s₁ (mkF m 32 #[.val (.int p1), .val (.int p2), .val (.int p3), .val (.int p4), .val (.int (1 : Int32)), .val (.int z89), .unset, .unset, .unset, .unset, .unset, .unset, .unset, .unset, .unset, .unset] [(.int z89)]) _
    refine go1 (fun _ => XS.iloadN X0.here hx rfl (hb hby at_32) rfl) ?_
    show Go p.tables e below s₁ (mkF m 33 #[.val (.int p1), .val (.int p2), .val (.int p3), .val (.int p4), .val (.int (1 : Int32)), .val (.int z89), .unset, .unset, .unset, .unset, .unset, .unset, .unset, .unset, .unset, .unset] [(.int p2), (.int z89)]) _
    refine go1 (fun _ => XS.iloadN X0.here hx rfl (hb hby at_33) rfl) ?_
    show Go p.tables e below s₁ (mkF m 34 #[.val (.int p1), .val (.int p2), .val (.int p3), .val (.int p4), .val (.int (1 : Int32)), .val (.int z89), .unset, .unset, .unset, .unset, .unset, .unset, .unset, .unset, .unset, .unset] [(.int p3), (.int p2), (.int z89)]) _
    obtain ⟨_, _, ⟨T90, L90, k90, n90⟩, -, X90, hq90, hg90, ⟨Lc90, hQ90, l90, y90, z90⟩, st90⟩ := callSS X0 hx (y := (⟨"com/example/enrout/enrout/broker/cli/OptionIsFlagPinLaw", "drawn", "(III)Ljava/lang/String;"⟩ : MethodName)) hown (mvT hZ (hw _ (List.mem_of_getElem? (i := 0) rfl))) (mvT hZ (hw _ (List.mem_of_getElem? (i := 1) rfl))) (mvT hZ (hw _ (List.mem_of_getElem? (i := 2) rfl))) (mvT hZ (hw _ (List.mem_of_getElem? (i := 3) rfl))) (by decide) (backOfS (W := 0) (rm1 l Z a0 hw [] z89 p2 p3 a_COMPACT_STRINGS h0 n0 Z0 O0 S_COMPACT_STRINGS P_a_COMPACT_STRINGS) hZ (hw _ (List.mem_of_getElem? (i := 3) rfl)) (hw _ (List.mem_of_getElem? (i := 2) rfl)) (by decide) (by decide)) (g := (mkF m 34 #[.val (.int p1), .val (.int p2), .val (.int p3), .val (.int p4), .val (.int (1 : Int32)), .val (.int z89), .unset, .unset, .unset, .unset, .unset, .unset, .unset, .unset, .unset, .unset] [(.int p3), (.int p2), (.int z89)])) rfl (by rw [hml]; rfl) (argsL := [(.int z89), (.int p2), (.int p3)]) (rest := []) (lenOf pd0_0 rfl) rfl (by show 2 * 0 + _ ≤ _; exact Nat.le_of_eq rfl) (hb hby at_34) (fun _ _ => ⟨rfl, e0, (by decide : 0 + 3 ≤ _), (by decide : 0 + 8 ≤ _)⟩)
    dsimp only [Pt.U, Pt.locs, Pt.cells, Pt.slots] at X90 l90 y90 z90 st90 hQ90 hq90 hg90
    subst l90 y90 z90
    have hS90 : s.Since T90.vm T90.heap.size := foldS (s := s) (vm0 := s.vm) (T := s₁) hS0 (by rw [e0]; exact (Nat.zero_le _)) hq90 hg90
    have hZ90 : Z.Warmed39 T90.vm := State.Warmed39.trans (t := s.setVm s.vm) hZ hq90.1
    have hown90 : T90.vm.findClass "com/example/enrout/enrout/broker/cli/OptionIsFlagPinLaw" = some m.cls := by
      rw [hq90.1.alike.findClass]; exact hown
    obtain ⟨b91, rfl, N90q, K90⟩ := hQ90
    have N90 := Fr.app N0 N90q
    refine goT st90 ?_
    show Go p.tables e below T90 (mkF m 37 #[.val (.int p1), .val (.int p2), .val (.int p3), .val (.int p4), .val (.int (1 : Int32)), .val (.int z89), .unset, .unset, .unset, .unset, .unset, .unset, .unset, .unset, .unset, .unset] [(.ref b91)]) _
    refine go1 (fun _ => XS.astore X90.here hx rfl (hb hby at_37) rfl rfl (l' := #[.val (.int p1), .val (.int p2), .val (.int p3), .val (.int p4), .val (.int (1 : Int32)), .val (.int z89), .val (.ref b91), .unset, .unset, .unset, .unset, .unset, .unset, .unset, .unset, .unset]) rfl) ?_
    show Go p.tables e below T90 (mkF m 39 #[.val (.int p1), .val (.int p2), .val (.int p3), .val (.int p4), .val (.int (1 : Int32)), .val (.int z89), .val (.ref b91), .unset, .unset, .unset, .unset, .unset, .unset, .unset, .unset, .unset] []) _
    refine go1 (fun _ => XS.iloadN X90.here hx rfl (hb hby at_39) rfl) ?_
    show Go p.tables e below T90 (mkF m 40 #[.val (.int p1), .val (.int p2), .val (.int p3), .val (.int p4), .val (.int (1 : Int32)), .val (.int z89), .val (.ref b91), .unset, .unset, .unset, .unset, .unset, .unset, .unset, .unset, .unset] [(.int p4)]) _
    refine go1 (fun _ => XS.bipush X90.here hx rfl (hb hby at_40)) ?_
    show Go p.tables e below T90 (mkF m 42 #[.val (.int p1), .val (.int p2), .val (.int p3), .val (.int p4), .val (.int (1 : Int32)), .val (.int z89), .val (.ref b91), .unset, .unset, .unset, .unset, .unset, .unset, .unset, .unset, .unset] [(.int (16 : Int32)), (.int p4)]) _
    refine go1 (fun _ => XS.iand X90.here hx rfl (hb hby at_42) rfl) ?_
    show Go p.tables e below T90 (mkF m 43 #[.val (.int p1), .val (.int p2), .val (.int p3), .val (.int p4), .val (.int (1 : Int32)), .val (.int z89), .val (.ref b91), .unset, .unset, .unset, .unset, .unset, .unset, .unset, .unset, .unset] [(.int (p4 &&& (16 : Int32)))]) _
    by_cases hc92 : (p4 &&& (16 : Int32)) = (0 : Int32)
    · skip
      refine go1 (fun _ => XS.ifYes X90.here hx rfl (pc0 := 43) (pc' := 51) rfl (hb hby at_43) rfl ((if0 _ _).trans (teq hc92).1) (by decide) (by decide)) ?_
      show Go p.tables e below T90 (mkF m 51 #[.val (.int p1), .val (.int p2), .val (.int p3), .val (.int p4), .val (.int (1 : Int32)), .val (.int z89), .val (.ref b91), .unset, .unset, .unset, .unset, .unset, .unset, .unset, .unset, .unset] []) _
      refine go1 (fun _ => XS.aload X90.here hx rfl (hb hby at_51) rfl rfl) ?_
      show Go p.tables e below T90 (mkF m 53 #[.val (.int p1), .val (.int p2), .val (.int p3), .val (.int p4), .val (.int (1 : Int32)), .val (.int z89), .val (.ref b91), .unset, .unset, .unset, .unset, .unset, .unset, .unset, .unset, .unset] [(.ref b91)]) _
      refine go1 (fun _ => XS.astore X90.here hx rfl (hb hby at_53) rfl rfl (l' := #[.val (.int p1), .val (.int p2), .val (.int p3), .val (.int p4), .val (.int (1 : Int32)), .val (.int z89), .val (.ref b91), .val (.ref b91), .unset, .unset, .unset, .unset, .unset, .unset, .unset, .unset]) rfl) ?_
      show Go p.tables e below T90 (mkF m 55 #[.val (.int p1), .val (.int p2), .val (.int p3), .val (.int p4), .val (.int (1 : Int32)), .val (.int z89), .val (.ref b91), .val (.ref b91), .unset, .unset, .unset, .unset, .unset, .unset, .unset, .unset] []) _
      refine go1 (fun _ => XS.iloadN X90.here hx rfl (hb hby at_55) rfl) ?_
      show Go p.tables e below T90 (mkF m 56 #[.val (.int p1), .val (.int p2), .val (.int p3), .val (.int p4), .val (.int (1 : Int32)), .val (.int z89), .val (.ref b91), .val (.ref b91), .unset, .unset, .unset, .unset, .unset, .unset, .unset, .unset] [(.int p4)]) _
      refine go1 (fun _ => XS.iconst X90.here hx rfl (hb hby at_56)) ?_
      show Go p.tables e below T90 (mkF m 57 #[.val (.int p1), .val (.int p2), .val (.int p3), .val (.int p4), .val (.int (1 : Int32)), .val (.int z89), .val (.ref b91), .val (.ref b91), .unset, .unset, .unset, .unset, .unset, .unset, .unset, .unset] [(.int (5 : Int32)), (.int p4)]) _
      refine go1 (fun _ => XS.iushr X90.here hx rfl (hb hby at_57) rfl) ?_
      show Go p.tables e below T90 (mkF m 58 #[.val (.int p1), .val (.int p2), .val (.int p3), .val (.int p4), .val (.int (1 : Int32)), .val (.int z89), .val (.ref b91), .val (.ref b91), .unset, .unset, .unset, .unset, .unset, .unset, .unset, .unset] [(.int ((p4.toUInt32 >>> ((5 : Int32) &&& 31).toUInt32).toInt32))]) _
      refine go1 (fun _ => XS.iconst X90.here hx rfl (hb hby at_58)) ?_
      show Go p.tables e below T90 (mkF m 59 #[.val (.int p1), .val (.int p2), .val (.int p3), .val (.int p4), .val (.int (1 : Int32)), .val (.int z89), .val (.ref b91), .val (.ref b91), .unset, .unset, .unset, .unset, .unset, .unset, .unset, .unset] [(.int (1 : Int32)), (.int ((p4.toUInt32 >>> ((5 : Int32) &&& 31).toUInt32).toInt32))]) _
      refine go1 (fun _ => XS.iand X90.here hx rfl (hb hby at_59) rfl) ?_
      show Go p.tables e below T90 (mkF m 60 #[.val (.int p1), .val (.int p2), .val (.int p3), .val (.int p4), .val (.int (1 : Int32)), .val (.int z89), .val (.ref b91), .val (.ref b91), .unset, .unset, .unset, .unset, .unset, .unset, .unset, .unset] [(.int (((p4.toUInt32 >>> ((5 : Int32) &&& 31).toUInt32).toInt32) &&& (1 : Int32)))]) _
      refine go1 (fun _ => XS.iloadN X90.here hx rfl (hb hby at_60) rfl) ?_
      show Go p.tables e below T90 (mkF m 61 #[.val (.int p1), .val (.int p2), .val (.int p3), .val (.int p4), .val (.int (1 : Int32)), .val (.int z89), .val (.ref b91), .val (.ref b91), .unset, .unset, .unset, .unset, .unset, .unset, .unset, .unset] [(.int p3), (.int (((p4.toUInt32 >>> ((5 : Int32) &&& 31).toUInt32).toInt32) &&& (1 : Int32)))]) _
      refine go1 (fun _ => XS.iloadN X90.here hx rfl (hb hby at_61) rfl) ?_
      show Go p.tables e below T90 (mkF m 62 #[.val (.int p1), .val (.int p2), .val (.int p3), .val (.int p4), .val (.int (1 : Int32)), .val (.int z89), .val (.ref b91), .val (.ref b91), .unset, .unset, .unset, .unset, .unset, .unset, .unset, .unset] [(.int p2), (.int p3), (.int (((p4.toUInt32 >>> ((5 : Int32) &&& 31).toUInt32).toInt32) &&& (1 : Int32)))]) _
      obtain ⟨_, _, ⟨T93, L93, k93, n93⟩, -, X93, hq93, hg93, ⟨Lc93, hQ93, l93, y93, z93⟩, st93⟩ := callSS X90 hx (y := (⟨"com/example/enrout/enrout/broker/cli/OptionIsFlagPinLaw", "drawn", "(III)Ljava/lang/String;"⟩ : MethodName)) hown90 (mvT hZ90 (hw _ (List.mem_of_getElem? (i := 0) rfl))) (mvT hZ90 (hw _ (List.mem_of_getElem? (i := 1) rfl))) (mvT hZ90 (hw _ (List.mem_of_getElem? (i := 2) rfl))) (mvT hZ90 (hw _ (List.mem_of_getElem? (i := 3) rfl))) (by decide) (backOfS (W := 0) (rm1 l Z a0 hw [] (((p4.toUInt32 >>> ((5 : Int32) &&& 31).toUInt32).toInt32) &&& (1 : Int32)) p3 p2 a_COMPACT_STRINGS T90.heap n0 (Nat.le_trans Z0 K90.1) (O0.keep K90 all0) S_COMPACT_STRINGS P_a_COMPACT_STRINGS) hZ90 (hw _ (List.mem_of_getElem? (i := 3) rfl)) (hw _ (List.mem_of_getElem? (i := 2) rfl)) (by decide) (by decide)) (g := (mkF m 62 #[.val (.int p1), .val (.int p2), .val (.int p3), .val (.int p4), .val (.int (1 : Int32)), .val (.int z89), .val (.ref b91), .val (.ref b91), .unset, .unset, .unset, .unset, .unset, .unset, .unset, .unset] [(.int p2), (.int p3), (.int (((p4.toUInt32 >>> ((5 : Int32) &&& 31).toUInt32).toInt32) &&& (1 : Int32)))])) rfl (by rw [hml]; rfl) (argsL := [(.int (((p4.toUInt32 >>> ((5 : Int32) &&& 31).toUInt32).toInt32) &&& (1 : Int32))), (.int p3), (.int p2)]) (rest := []) (lenOf pd0_0 rfl) rfl (by show 2 * 0 + _ ≤ _; exact Nat.le_of_eq rfl) (hb hby at_62) (fun _ _ => ⟨rfl, rfl, (by decide : 3 + 3 ≤ _), (by decide : 8 + 8 ≤ _)⟩)
      dsimp only [Pt.U, Pt.locs, Pt.cells, Pt.slots] at X93 l93 y93 z93 st93 hQ93 hq93 hg93
      subst l93 y93 z93
      have hS93 : s.Since T93.vm T93.heap.size := foldS (s := s) (vm0 := T90.vm) (T := T90) hS90 (Nat.le_refl _) hq93 hg93
      have hZ93 : Z.Warmed39 T93.vm := State.Warmed39.trans (t := s.setVm T90.vm) hZ90 hq93.1
      have hown93 : T93.vm.findClass "com/example/enrout/enrout/broker/cli/OptionIsFlagPinLaw" = some m.cls := by
        rw [hq93.1.alike.findClass]; exact hown90
      obtain ⟨b94, rfl, N93q, K93⟩ := hQ93
      have N93 := Fr.app N90 N93q
      refine goT st93 ?_
      show Go p.tables e below T93 (mkF m 65 #[.val (.int p1), .val (.int p2), .val (.int p3), .val (.int p4), .val (.int (1 : Int32)), .val (.int z89), .val (.ref b91), .val (.ref b91), .unset, .unset, .unset, .unset, .unset, .unset, .unset, .unset] [(.ref b94)]) _
      refine go1 (fun _ => XS.astore X93.here hx rfl (hb hby at_65) rfl rfl (l' := #[.val (.int p1), .val (.int p2), .val (.int p3), .val (.int p4), .val (.int (1 : Int32)), .val (.int z89), .val (.ref b91), .val (.ref b91), .val (.ref b94), .unset, .unset, .unset, .unset, .unset, .unset, .unset]) rfl) ?_
      show Go p.tables e below T93 (mkF m 67 #[.val (.int p1), .val (.int p2), .val (.int p3), .val (.int p4), .val (.int (1 : Int32)), .val (.int z89), .val (.ref b91), .val (.ref b91), .val (.ref b94), .unset, .unset, .unset, .unset, .unset, .unset, .unset] []) _
      refine go1 (fun _ => XS.iloadN X93.here hx rfl (hb hby at_67) rfl) ?_
      show Go p.tables e below T93 (mkF m 68 #[.val (.int p1), .val (.int p2), .val (.int p3), .val (.int p4), .val (.int (1 : Int32)), .val (.int z89), .val (.ref b91), .val (.ref b91), .val (.ref b94), .unset, .unset, .unset, .unset, .unset, .unset, .unset] [(.int p4)]) _
      refine go1 (fun _ => XS.bipush X93.here hx rfl (hb hby at_68)) ?_
      show Go p.tables e below T93 (mkF m 70 #[.val (.int p1), .val (.int p2), .val (.int p3), .val (.int p4), .val (.int (1 : Int32)), .val (.int z89), .val (.ref b91), .val (.ref b91), .val (.ref b94), .unset, .unset, .unset, .unset, .unset, .unset, .unset] [(.int (8 : Int32)), (.int p4)]) _
      refine go1 (fun _ => XS.iand X93.here hx rfl (hb hby at_70) rfl) ?_
      show Go p.tables e below T93 (mkF m 71 #[.val (.int p1), .val (.int p2), .val (.int p3), .val (.int p4), .val (.int (1 : Int32)), .val (.int z89), .val (.ref b91), .val (.ref b91), .val (.ref b94), .unset, .unset, .unset, .unset, .unset, .unset, .unset] [(.int (p4 &&& (8 : Int32)))]) _
      by_cases hc95 : (p4 &&& (8 : Int32)) = (0 : Int32)
      · skip
        refine go1 (fun _ => XS.ifYes X93.here hx rfl (pc0 := 71) (pc' := 79) rfl (hb hby at_71) rfl ((if0 _ _).trans (teq hc95).1) (by decide) (by decide)) ?_
        show Go p.tables e below T93 (mkF m 79 #[.val (.int p1), .val (.int p2), .val (.int p3), .val (.int p4), .val (.int (1 : Int32)), .val (.int z89), .val (.ref b91), .val (.ref b91), .val (.ref b94), .unset, .unset, .unset, .unset, .unset, .unset, .unset] []) _
        refine go1 (fun _ => XS.aconstNull X93.here hx rfl (hb hby at_79)) ?_
        show Go p.tables e below T93 (mkF m 80 #[.val (.int p1), .val (.int p2), .val (.int p3), .val (.int p4), .val (.int (1 : Int32)), .val (.int z89), .val (.ref b91), .val (.ref b91), .val (.ref b94), .unset, .unset, .unset, .unset, .unset, .unset, .unset] [.null]) _
        refine go1 (fun _ => XS.astore X93.here hx rfl (hb hby at_80) rfl rfl (l' := #[.val (.int p1), .val (.int p2), .val (.int p3), .val (.int p4), .val (.int (1 : Int32)), .val (.int z89), .val (.ref b91), .val (.ref b91), .val (.ref b94), .val .null, .unset, .unset, .unset, .unset, .unset, .unset]) rfl) ?_
        show Go p.tables e below T93 (mkF m 82 #[.val (.int p1), .val (.int p2), .val (.int p3), .val (.int p4), .val (.int (1 : Int32)), .val (.int z89), .val (.ref b91), .val (.ref b91), .val (.ref b94), .val .null, .unset, .unset, .unset, .unset, .unset, .unset] []) _
        refine go1 (fun _ => XS.iloadN X93.here hx rfl (hb hby at_82) rfl) ?_
        show Go p.tables e below T93 (mkF m 83 #[.val (.int p1), .val (.int p2), .val (.int p3), .val (.int p4), .val (.int (1 : Int32)), .val (.int z89), .val (.ref b91), .val (.ref b91), .val (.ref b94), .val .null, .unset, .unset, .unset, .unset, .unset, .unset] [(.int p4)]) _
        refine go1 (fun _ => XS.iconst X93.here hx rfl (hb hby at_83)) ?_
        show Go p.tables e below T93 (mkF m 84 #[.val (.int p1), .val (.int p2), .val (.int p3), .val (.int p4), .val (.int (1 : Int32)), .val (.int z89), .val (.ref b91), .val (.ref b91), .val (.ref b94), .val .null, .unset, .unset, .unset, .unset, .unset, .unset] [(.int (1 : Int32)), (.int p4)]) _
        refine go1 (fun _ => XS.iand X93.here hx rfl (hb hby at_84) rfl) ?_
        show Go p.tables e below T93 (mkF m 85 #[.val (.int p1), .val (.int p2), .val (.int p3), .val (.int p4), .val (.int (1 : Int32)), .val (.int z89), .val (.ref b91), .val (.ref b91), .val (.ref b94), .val .null, .unset, .unset, .unset, .unset, .unset, .unset] [(.int (p4 &&& (1 : Int32)))]) _
        refine go1 (T' := T93) (g' := (mkF m 93 #[.val (.int p1), .val (.int p2), .val (.int p3), .val (.int p4), .val (.int (1 : Int32)), .val (.int z89), .val (.ref b91), .val (.ref b91), .val (.ref b94), .val .null, .unset, .unset, .unset, .unset, .unset, .unset] [(.int (if (p4 &&& (1 : Int32)) = (0 : Int32) then (0 : Int32) else (1 : Int32)))])) (fun t k => ?_) ?_
        · by_cases hd96 : (p4 &&& (1 : Int32)) = (0 : Int32)
          · skip
            rw [(if_pos hd96 : (if (p4 &&& (1 : Int32)) = (0 : Int32) then (0 : Int32) else (1 : Int32)) = (0 : Int32))] at k
            show Steps p.tables e below (T93.setTop (mkF m 85 #[.val (.int p1), .val (.int p2), .val (.int p3), .val (.int p4), .val (.int (1 : Int32)), .val (.int z89), .val (.ref b91), .val (.ref b91), .val (.ref b94), .val .null, .unset, .unset, .unset, .unset, .unset, .unset] [(.int (p4 &&& (1 : Int32)))])) _
            refine XS.ifYes X93.here hx rfl (pc0 := 85) (pc' := 92) rfl (hb hby at_85) rfl ((if0 _ _).trans (teq hd96).1) (by decide) (by decide) ?_
            show Steps p.tables e below (T93.setTop (mkF m 92 #[.val (.int p1), .val (.int p2), .val (.int p3), .val (.int p4), .val (.int (1 : Int32)), .val (.int z89), .val (.ref b91), .val (.ref b91), .val (.ref b94), .val .null, .unset, .unset, .unset, .unset, .unset, .unset] [])) _
            refine XS.iconst X93.here hx rfl (hb hby at_92) ?_
            show Steps p.tables e below (T93.setTop (mkF m 93 #[.val (.int p1), .val (.int p2), .val (.int p3), .val (.int p4), .val (.int (1 : Int32)), .val (.int z89), .val (.ref b91), .val (.ref b91), .val (.ref b94), .val .null, .unset, .unset, .unset, .unset, .unset, .unset] [(.int (0 : Int32))])) _
            exact k
          · skip
            rw [(if_neg hd96 : (if (p4 &&& (1 : Int32)) = (0 : Int32) then (0 : Int32) else (1 : Int32)) = (1 : Int32))] at k
            show Steps p.tables e below (T93.setTop (mkF m 85 #[.val (.int p1), .val (.int p2), .val (.int p3), .val (.int p4), .val (.int (1 : Int32)), .val (.int z89), .val (.ref b91), .val (.ref b91), .val (.ref b94), .val .null, .unset, .unset, .unset, .unset, .unset, .unset] [(.int (p4 &&& (1 : Int32)))])) _
            refine XS.ifNo X93.here hx rfl (hb hby at_85) rfl ((if0 _ _).trans (feq hd96).1) ?_
            show Steps p.tables e below (T93.setTop (mkF m 88 #[.val (.int p1), .val (.int p2), .val (.int p3), .val (.int p4), .val (.int (1 : Int32)), .val (.int z89), .val (.ref b91), .val (.ref b91), .val (.ref b94), .val .null, .unset, .unset, .unset, .unset, .unset, .unset] [])) _
            refine XS.iconst X93.here hx rfl (hb hby at_88) ?_
            show Steps p.tables e below (T93.setTop (mkF m 89 #[.val (.int p1), .val (.int p2), .val (.int p3), .val (.int p4), .val (.int (1 : Int32)), .val (.int z89), .val (.ref b91), .val (.ref b91), .val (.ref b94), .val .null, .unset, .unset, .unset, .unset, .unset, .unset] [(.int (1 : Int32))])) _
            refine XS.goto X93.here hx rfl (pc0 := 89) (pc' := 93) rfl (hb hby at_89) (by decide) (by decide) ?_
            show Steps p.tables e below (T93.setTop (mkF m 93 #[.val (.int p1), .val (.int p2), .val (.int p3), .val (.int p4), .val (.int (1 : Int32)), .val (.int z89), .val (.ref b91), .val (.ref b91), .val (.ref b94), .val .null, .unset, .unset, .unset, .unset, .unset, .unset] [(.int (1 : Int32))])) _
            exact k
        show Go p.tables e below T93 (mkF m 93 #[.val (.int p1), .val (.int p2), .val (.int p3), .val (.int p4), .val (.int (1 : Int32)), .val (.int z89), .val (.ref b91), .val (.ref b91), .val (.ref b94), .val .null, .unset, .unset, .unset, .unset, .unset, .unset] [(.int (if (p4 &&& (1 : Int32)) = (0 : Int32) then (0 : Int32) else (1 : Int32)))]) _
        obtain ⟨z97, hz97⟩ : ∃ z : Int32, z = (if (p4 &&& (1 : Int32)) = (0 : Int32) then (0 : Int32) else (1 : Int32)) := ⟨_, rfl⟩
        rw [← hz97]
        show Go p.tables e below T93 (mkF m 93 #[.val (.int p1), .val (.int p2), .val (.int p3), .val (.int p4), .val (.int (1 : Int32)), .val (.int z89), .val (.ref b91), .val (.ref b91), .val (.ref b94), .val .null, .unset, .unset, .unset, .unset, .unset, .unset] [(.int z97)]) _
        refine go1 (fun _ => XS.istore X93.here hx rfl (hb hby at_93) rfl (l' := #[.val (.int p1), .val (.int p2), .val (.int p3), .val (.int p4), .val (.int (1 : Int32)), .val (.int z89), .val (.ref b91), .val (.ref b91), .val (.ref b94), .val .null, .val (.int z97), .unset, .unset, .unset, .unset, .unset]) rfl) ?_
        show Go p.tables e below T93 (mkF m 95 #[.val (.int p1), .val (.int p2), .val (.int p3), .val (.int p4), .val (.int (1 : Int32)), .val (.int z89), .val (.ref b91), .val (.ref b91), .val (.ref b94), .val .null, .val (.int z97), .unset, .unset, .unset, .unset, .unset] []) _
        refine go1 (fun _ => XS.iloadN X93.here hx rfl (hb hby at_95) rfl) ?_
        show Go p.tables e below T93 (mkF m 96 #[.val (.int p1), .val (.int p2), .val (.int p3), .val (.int p4), .val (.int (1 : Int32)), .val (.int z89), .val (.ref b91), .val (.ref b91), .val (.ref b94), .val .null, .val (.int z97), .unset, .unset, .unset, .unset, .unset] [(.int p4)]) _
        refine go1 (fun _ => XS.iconst X93.here hx rfl (hb hby at_96)) ?_
        show Go p.tables e below T93 (mkF m 97 #[.val (.int p1), .val (.int p2), .val (.int p3), .val (.int p4), .val (.int (1 : Int32)), .val (.int z89), .val (.ref b91), .val (.ref b91), .val (.ref b94), .val .null, .val (.int z97), .unset, .unset, .unset, .unset, .unset] [(.int (2 : Int32)), (.int p4)]) _
        refine go1 (fun _ => XS.iand X93.here hx rfl (hb hby at_97) rfl) ?_
        show Go p.tables e below T93 (mkF m 98 #[.val (.int p1), .val (.int p2), .val (.int p3), .val (.int p4), .val (.int (1 : Int32)), .val (.int z89), .val (.ref b91), .val (.ref b91), .val (.ref b94), .val .null, .val (.int z97), .unset, .unset, .unset, .unset, .unset] [(.int (p4 &&& (2 : Int32)))]) _
        refine go1 (T' := T93) (g' := (mkF m 106 #[.val (.int p1), .val (.int p2), .val (.int p3), .val (.int p4), .val (.int (1 : Int32)), .val (.int z89), .val (.ref b91), .val (.ref b91), .val (.ref b94), .val .null, .val (.int z97), .unset, .unset, .unset, .unset, .unset] [(.int (if (p4 &&& (2 : Int32)) = (0 : Int32) then (0 : Int32) else (1 : Int32)))])) (fun t k => ?_) ?_
        · by_cases hd98 : (p4 &&& (2 : Int32)) = (0 : Int32)
          · skip
            rw [(if_pos hd98 : (if (p4 &&& (2 : Int32)) = (0 : Int32) then (0 : Int32) else (1 : Int32)) = (0 : Int32))] at k
            show Steps p.tables e below (T93.setTop (mkF m 98 #[.val (.int p1), .val (.int p2), .val (.int p3), .val (.int p4), .val (.int (1 : Int32)), .val (.int z89), .val (.ref b91), .val (.ref b91), .val (.ref b94), .val .null, .val (.int z97), .unset, .unset, .unset, .unset, .unset] [(.int (p4 &&& (2 : Int32)))])) _
            refine XS.ifYes X93.here hx rfl (pc0 := 98) (pc' := 105) rfl (hb hby at_98) rfl ((if0 _ _).trans (teq hd98).1) (by decide) (by decide) ?_
            show Steps p.tables e below (T93.setTop (mkF m 105 #[.val (.int p1), .val (.int p2), .val (.int p3), .val (.int p4), .val (.int (1 : Int32)), .val (.int z89), .val (.ref b91), .val (.ref b91), .val (.ref b94), .val .null, .val (.int z97), .unset, .unset, .unset, .unset, .unset] [])) _
            refine XS.iconst X93.here hx rfl (hb hby at_105) ?_
            show Steps p.tables e below (T93.setTop (mkF m 106 #[.val (.int p1), .val (.int p2), .val (.int p3), .val (.int p4), .val (.int (1 : Int32)), .val (.int z89), .val (.ref b91), .val (.ref b91), .val (.ref b94), .val .null, .val (.int z97), .unset, .unset, .unset, .unset, .unset] [(.int (0 : Int32))])) _
            exact k
          · skip
            rw [(if_neg hd98 : (if (p4 &&& (2 : Int32)) = (0 : Int32) then (0 : Int32) else (1 : Int32)) = (1 : Int32))] at k
            show Steps p.tables e below (T93.setTop (mkF m 98 #[.val (.int p1), .val (.int p2), .val (.int p3), .val (.int p4), .val (.int (1 : Int32)), .val (.int z89), .val (.ref b91), .val (.ref b91), .val (.ref b94), .val .null, .val (.int z97), .unset, .unset, .unset, .unset, .unset] [(.int (p4 &&& (2 : Int32)))])) _
            refine XS.ifNo X93.here hx rfl (hb hby at_98) rfl ((if0 _ _).trans (feq hd98).1) ?_
            show Steps p.tables e below (T93.setTop (mkF m 101 #[.val (.int p1), .val (.int p2), .val (.int p3), .val (.int p4), .val (.int (1 : Int32)), .val (.int z89), .val (.ref b91), .val (.ref b91), .val (.ref b94), .val .null, .val (.int z97), .unset, .unset, .unset, .unset, .unset] [])) _
            refine XS.iconst X93.here hx rfl (hb hby at_101) ?_
            show Steps p.tables e below (T93.setTop (mkF m 102 #[.val (.int p1), .val (.int p2), .val (.int p3), .val (.int p4), .val (.int (1 : Int32)), .val (.int z89), .val (.ref b91), .val (.ref b91), .val (.ref b94), .val .null, .val (.int z97), .unset, .unset, .unset, .unset, .unset] [(.int (1 : Int32))])) _
            refine XS.goto X93.here hx rfl (pc0 := 102) (pc' := 106) rfl (hb hby at_102) (by decide) (by decide) ?_
            show Steps p.tables e below (T93.setTop (mkF m 106 #[.val (.int p1), .val (.int p2), .val (.int p3), .val (.int p4), .val (.int (1 : Int32)), .val (.int z89), .val (.ref b91), .val (.ref b91), .val (.ref b94), .val .null, .val (.int z97), .unset, .unset, .unset, .unset, .unset] [(.int (1 : Int32))])) _
            exact k
        show Go p.tables e below T93 (mkF m 106 #[.val (.int p1), .val (.int p2), .val (.int p3), .val (.int p4), .val (.int (1 : Int32)), .val (.int z89), .val (.ref b91), .val (.ref b91), .val (.ref b94), .val .null, .val (.int z97), .unset, .unset, .unset, .unset, .unset] [(.int (if (p4 &&& (2 : Int32)) = (0 : Int32) then (0 : Int32) else (1 : Int32)))]) _
        obtain ⟨z99, hz99⟩ : ∃ z : Int32, z = (if (p4 &&& (2 : Int32)) = (0 : Int32) then (0 : Int32) else (1 : Int32)) := ⟨_, rfl⟩
        rw [← hz99]
        show Go p.tables e below T93 (mkF m 106 #[.val (.int p1), .val (.int p2), .val (.int p3), .val (.int p4), .val (.int (1 : Int32)), .val (.int z89), .val (.ref b91), .val (.ref b91), .val (.ref b94), .val .null, .val (.int z97), .unset, .unset, .unset, .unset, .unset] [(.int z99)]) _
        refine go1 (fun _ => XS.istore X93.here hx rfl (hb hby at_106) rfl (l' := #[.val (.int p1), .val (.int p2), .val (.int p3), .val (.int p4), .val (.int (1 : Int32)), .val (.int z89), .val (.ref b91), .val (.ref b91), .val (.ref b94), .val .null, .val (.int z97), .val (.int z99), .unset, .unset, .unset, .unset]) rfl) ?_
        show Go p.tables e below T93 (mkF m 108 #[.val (.int p1), .val (.int p2), .val (.int p3), .val (.int p4), .val (.int (1 : Int32)), .val (.int z89), .val (.ref b91), .val (.ref b91), .val (.ref b94), .val .null, .val (.int z97), .val (.int z99), .unset, .unset, .unset, .unset] []) _
        refine go1 (fun _ => XS.iloadN X93.here hx rfl (hb hby at_108) rfl) ?_
        show Go p.tables e below T93 (mkF m 109 #[.val (.int p1), .val (.int p2), .val (.int p3), .val (.int p4), .val (.int (1 : Int32)), .val (.int z89), .val (.ref b91), .val (.ref b91), .val (.ref b94), .val .null, .val (.int z97), .val (.int z99), .unset, .unset, .unset, .unset] [(.int p4)]) _
        refine go1 (fun _ => XS.iconst X93.here hx rfl (hb hby at_109)) ?_
        show Go p.tables e below T93 (mkF m 110 #[.val (.int p1), .val (.int p2), .val (.int p3), .val (.int p4), .val (.int (1 : Int32)), .val (.int z89), .val (.ref b91), .val (.ref b91), .val (.ref b94), .val .null, .val (.int z97), .val (.int z99), .unset, .unset, .unset, .unset] [(.int (4 : Int32)), (.int p4)]) _
        refine go1 (fun _ => XS.iand X93.here hx rfl (hb hby at_110) rfl) ?_
        show Go p.tables e below T93 (mkF m 111 #[.val (.int p1), .val (.int p2), .val (.int p3), .val (.int p4), .val (.int (1 : Int32)), .val (.int z89), .val (.ref b91), .val (.ref b91), .val (.ref b94), .val .null, .val (.int z97), .val (.int z99), .unset, .unset, .unset, .unset] [(.int (p4 &&& (4 : Int32)))]) _
        refine go1 (T' := T93) (g' := (mkF m 119 #[.val (.int p1), .val (.int p2), .val (.int p3), .val (.int p4), .val (.int (1 : Int32)), .val (.int z89), .val (.ref b91), .val (.ref b91), .val (.ref b94), .val .null, .val (.int z97), .val (.int z99), .unset, .unset, .unset, .unset] [(.int (if (p4 &&& (4 : Int32)) = (0 : Int32) then (0 : Int32) else (1 : Int32)))])) (fun t k => ?_) ?_
        · by_cases hd100 : (p4 &&& (4 : Int32)) = (0 : Int32)
          · skip
            rw [(if_pos hd100 : (if (p4 &&& (4 : Int32)) = (0 : Int32) then (0 : Int32) else (1 : Int32)) = (0 : Int32))] at k
            show Steps p.tables e below (T93.setTop (mkF m 111 #[.val (.int p1), .val (.int p2), .val (.int p3), .val (.int p4), .val (.int (1 : Int32)), .val (.int z89), .val (.ref b91), .val (.ref b91), .val (.ref b94), .val .null, .val (.int z97), .val (.int z99), .unset, .unset, .unset, .unset] [(.int (p4 &&& (4 : Int32)))])) _
            refine XS.ifYes X93.here hx rfl (pc0 := 111) (pc' := 118) rfl (hb hby at_111) rfl ((if0 _ _).trans (teq hd100).1) (by decide) (by decide) ?_
            show Steps p.tables e below (T93.setTop (mkF m 118 #[.val (.int p1), .val (.int p2), .val (.int p3), .val (.int p4), .val (.int (1 : Int32)), .val (.int z89), .val (.ref b91), .val (.ref b91), .val (.ref b94), .val .null, .val (.int z97), .val (.int z99), .unset, .unset, .unset, .unset] [])) _
            refine XS.iconst X93.here hx rfl (hb hby at_118) ?_
            show Steps p.tables e below (T93.setTop (mkF m 119 #[.val (.int p1), .val (.int p2), .val (.int p3), .val (.int p4), .val (.int (1 : Int32)), .val (.int z89), .val (.ref b91), .val (.ref b91), .val (.ref b94), .val .null, .val (.int z97), .val (.int z99), .unset, .unset, .unset, .unset] [(.int (0 : Int32))])) _
            exact k
          · skip
            rw [(if_neg hd100 : (if (p4 &&& (4 : Int32)) = (0 : Int32) then (0 : Int32) else (1 : Int32)) = (1 : Int32))] at k
            show Steps p.tables e below (T93.setTop (mkF m 111 #[.val (.int p1), .val (.int p2), .val (.int p3), .val (.int p4), .val (.int (1 : Int32)), .val (.int z89), .val (.ref b91), .val (.ref b91), .val (.ref b94), .val .null, .val (.int z97), .val (.int z99), .unset, .unset, .unset, .unset] [(.int (p4 &&& (4 : Int32)))])) _
            refine XS.ifNo X93.here hx rfl (hb hby at_111) rfl ((if0 _ _).trans (feq hd100).1) ?_
            show Steps p.tables e below (T93.setTop (mkF m 114 #[.val (.int p1), .val (.int p2), .val (.int p3), .val (.int p4), .val (.int (1 : Int32)), .val (.int z89), .val (.ref b91), .val (.ref b91), .val (.ref b94), .val .null, .val (.int z97), .val (.int z99), .unset, .unset, .unset, .unset] [])) _
            refine XS.iconst X93.here hx rfl (hb hby at_114) ?_
            show Steps p.tables e below (T93.setTop (mkF m 115 #[.val (.int p1), .val (.int p2), .val (.int p3), .val (.int p4), .val (.int (1 : Int32)), .val (.int z89), .val (.ref b91), .val (.ref b91), .val (.ref b94), .val .null, .val (.int z97), .val (.int z99), .unset, .unset, .unset, .unset] [(.int (1 : Int32))])) _
            refine XS.goto X93.here hx rfl (pc0 := 115) (pc' := 119) rfl (hb hby at_115) (by decide) (by decide) ?_
            show Steps p.tables e below (T93.setTop (mkF m 119 #[.val (.int p1), .val (.int p2), .val (.int p3), .val (.int p4), .val (.int (1 : Int32)), .val (.int z89), .val (.ref b91), .val (.ref b91), .val (.ref b94), .val .null, .val (.int z97), .val (.int z99), .unset, .unset, .unset, .unset] [(.int (1 : Int32))])) _
            exact k
        show Go p.tables e below T93 (mkF m 119 #[.val (.int p1), .val (.int p2), .val (.int p3), .val (.int p4), .val (.int (1 : Int32)), .val (.int z89), .val (.ref b91), .val (.ref b91), .val (.ref b94), .val .null, .val (.int z97), .val (.int z99), .unset, .unset, .unset, .unset] [(.int (if (p4 &&& (4 : Int32)) = (0 : Int32) then (0 : Int32) else (1 : Int32)))]) _
        obtain ⟨z101, hz101⟩ : ∃ z : Int32, z = (if (p4 &&& (4 : Int32)) = (0 : Int32) then (0 : Int32) else (1 : Int32)) := ⟨_, rfl⟩
        rw [← hz101]
        show Go p.tables e below T93 (mkF m 119 #[.val (.int p1), .val (.int p2), .val (.int p3), .val (.int p4), .val (.int (1 : Int32)), .val (.int z89), .val (.ref b91), .val (.ref b91), .val (.ref b94), .val .null, .val (.int z97), .val (.int z99), .unset, .unset, .unset, .unset] [(.int z101)]) _
        refine go1 (fun _ => XS.istore X93.here hx rfl (hb hby at_119) rfl (l' := #[.val (.int p1), .val (.int p2), .val (.int p3), .val (.int p4), .val (.int (1 : Int32)), .val (.int z89), .val (.ref b91), .val (.ref b91), .val (.ref b94), .val .null, .val (.int z97), .val (.int z99), .val (.int z101), .unset, .unset, .unset]) rfl) ?_
        show Go p.tables e below T93 (mkF m 121 #[.val (.int p1), .val (.int p2), .val (.int p3), .val (.int p4), .val (.int (1 : Int32)), .val (.int z89), .val (.ref b91), .val (.ref b91), .val (.ref b94), .val .null, .val (.int z97), .val (.int z99), .val (.int z101), .unset, .unset, .unset] []) _
        refine go1 (fun _ => XS.iload X93.here hx rfl (hb hby at_121) rfl) ?_
        show Go p.tables e below T93 (mkF m 123 #[.val (.int p1), .val (.int p2), .val (.int p3), .val (.int p4), .val (.int (1 : Int32)), .val (.int z89), .val (.ref b91), .val (.ref b91), .val (.ref b94), .val .null, .val (.int z97), .val (.int z99), .val (.int z101), .unset, .unset, .unset] [(.int (1 : Int32))]) _
        refine go1 (fun _ => XS.ifNo X93.here hx rfl (hb hby at_123) rfl ((if0 _ _).trans (feq (by decide : ¬ ((1 : Int32) = (0 : Int32)))).1)) ?_
        show Go p.tables e below T93 (mkF m 126 #[.val (.int p1), .val (.int p2), .val (.int p3), .val (.int p4), .val (.int (1 : Int32)), .val (.int z89), .val (.ref b91), .val (.ref b91), .val (.ref b94), .val .null, .val (.int z97), .val (.int z99), .val (.int z101), .unset, .unset, .unset] []) _
        refine go1 (fun _ => XS.aload X93.here hx rfl (hb hby at_126) rfl rfl) ?_
        show Go p.tables e below T93 (mkF m 128 #[.val (.int p1), .val (.int p2), .val (.int p3), .val (.int p4), .val (.int (1 : Int32)), .val (.int z89), .val (.ref b91), .val (.ref b91), .val (.ref b94), .val .null, .val (.int z97), .val (.int z99), .val (.int z101), .unset, .unset, .unset] [(.ref b91)]) _
        refine go1 (fun _ => XS.goto X93.here hx rfl (pc0 := 128) (pc' := 132) rfl (hb hby at_128) (by decide) (by decide)) ?_
        show Go p.tables e below T93 (mkF m 132 #[.val (.int p1), .val (.int p2), .val (.int p3), .val (.int p4), .val (.int (1 : Int32)), .val (.int z89), .val (.ref b91), .val (.ref b91), .val (.ref b94), .val .null, .val (.int z97), .val (.int z99), .val (.int z101), .unset, .unset, .unset] [(.ref b91)]) _
        refine go1 (fun _ => XS.astore X93.here hx rfl (hb hby at_132) rfl rfl (l' := #[.val (.int p1), .val (.int p2), .val (.int p3), .val (.int p4), .val (.int (1 : Int32)), .val (.int z89), .val (.ref b91), .val (.ref b91), .val (.ref b94), .val .null, .val (.int z97), .val (.int z99), .val (.int z101), .val (.ref b91), .unset, .unset]) rfl) ?_
        show Go p.tables e below T93 (mkF m 134 #[.val (.int p1), .val (.int p2), .val (.int p3), .val (.int p4), .val (.int (1 : Int32)), .val (.int z89), .val (.ref b91), .val (.ref b91), .val (.ref b94), .val .null, .val (.int z97), .val (.int z99), .val (.int z101), .val (.ref b91), .unset, .unset] []) _
        obtain ⟨T102, h102, X102, e102, E102, A102, D102, -, st102⟩ := newO X93 hx hZ93 hown93 (hw _ (List.mem_of_getElem? (i := 12) rfl)) (hw _ (List.mem_of_getElem? (i := 13) rfl)) (hw _ (List.mem_of_getElem? (i := 14) rfl)) rfl (g := (mkF m 134 #[.val (.int p1), .val (.int p2), .val (.int p3), .val (.int p4), .val (.int (1 : Int32)), .val (.int z89), .val (.ref b91), .val (.ref b91), .val (.ref b94), .val .null, .val (.int z97), .val (.int z99), .val (.int z101), .val (.ref b91), .unset, .unset] [])) rfl (hb hby at_134) (by decide) (by decide)
        obtain ⟨b102, g102⟩ : ∃ z, z = T93.heap.size := ⟨_, rfl⟩
        rw [← g102] at A102 D102 st102
        have g_b102 : n0 ≤ b102 := Nat.le_trans (Nat.le_trans (Nat.le_trans Z0 K90.1) K93.1) (Nat.le_of_eq g102.symm)
        have F_name_b102 : Fld Z h102 b102 "com/example/enrout/enrout/broker/cli/Option" "name" "Ljava/lang/String;" .null := D102 (Or.inr (hw _ (List.mem_of_getElem? (i := 27) rfl))) (ty := (.object "java/lang/String")) (by decide)
        have F_value_b102 : Fld Z h102 b102 "com/example/enrout/enrout/broker/cli/Option" "value" "Ljava/lang/String;" .null := D102 (Or.inr (hw _ (List.mem_of_getElem? (i := 29) rfl))) (ty := (.object "java/lang/String")) (by decide)
        have F_help_b102 : Fld Z h102 b102 "com/example/enrout/enrout/broker/cli/Option" "help" "Ljava/lang/String;" .null := D102 (Or.inr (hw _ (List.mem_of_getElem? (i := 31) rfl))) (ty := (.object "java/lang/String")) (by decide)
        have F_defaultValue_b102 : Fld Z h102 b102 "com/example/enrout/enrout/broker/cli/Option" "defaultValue" "Ljava/lang/String;" .null := D102 (Or.inr (hw _ (List.mem_of_getElem? (i := 33) rfl))) (ty := (.object "java/lang/String")) (by decide)
        have F_required_b102 : Fld Z h102 b102 "com/example/enrout/enrout/broker/cli/Option" "required" "Z" (.int (0 : Int32)) := D102 (Or.inr (hw _ (List.mem_of_getElem? (i := 35) rfl))) (ty := .boolean) (by decide)
        have F_repeatable_b102 : Fld Z h102 b102 "com/example/enrout/enrout/broker/cli/Option" "repeatable" "Z" (.int (0 : Int32)) := D102 (Or.inr (hw _ (List.mem_of_getElem? (i := 37) rfl))) (ty := .boolean) (by decide)
        have F_several_b102 : Fld Z h102 b102 "com/example/enrout/enrout/broker/cli/Option" "several" "Z" (.int (0 : Int32)) := D102 (Or.inr (hw _ (List.mem_of_getElem? (i := 39) rfl))) (ty := .boolean) (by decide)
        refine go1 st102 ?_
        show Go p.tables e below T102 (mkF m 137 #[.val (.int p1), .val (.int p2), .val (.int p3), .val (.int p4), .val (.int (1 : Int32)), .val (.int z89), .val (.ref b91), .val (.ref b91), .val (.ref b94), .val .null, .val (.int z97), .val (.int z99), .val (.int z101), .val (.ref b91), .unset, .unset] [(.ref b102)]) _
        refine go1 (fun _ => XS.dup X102.here hx rfl (hb hby at_137) rfl rfl) ?_
        show Go p.tables e below T102 (mkF m 138 #[.val (.int p1), .val (.int p2), .val (.int p3), .val (.int p4), .val (.int (1 : Int32)), .val (.int z89), .val (.ref b91), .val (.ref b91), .val (.ref b94), .val .null, .val (.int z97), .val (.int z99), .val (.int z101), .val (.ref b91), .unset, .unset] [(.ref b102), (.ref b102)]) _
        refine go1 (fun _ => XS.aload X102.here hx rfl (hb hby at_138) rfl rfl) ?_
        show Go p.tables e below T102 (mkF m 140 #[.val (.int p1), .val (.int p2), .val (.int p3), .val (.int p4), .val (.int (1 : Int32)), .val (.int z89), .val (.ref b91), .val (.ref b91), .val (.ref b94), .val .null, .val (.int z97), .val (.int z99), .val (.int z101), .val (.ref b91), .unset, .unset] [(.ref b91), (.ref b102), (.ref b102)]) _
        refine go1 (fun _ => XS.aload X102.here hx rfl (hb hby at_140) rfl rfl) ?_
        show Go p.tables e below T102 (mkF m 142 #[.val (.int p1), .val (.int p2), .val (.int p3), .val (.int p4), .val (.int (1 : Int32)), .val (.int z89), .val (.ref b91), .val (.ref b91), .val (.ref b94), .val .null, .val (.int z97), .val (.int z99), .val (.int z101), .val (.ref b91), .unset, .unset] [(.ref b91), (.ref b91), (.ref b102), (.ref b102)]) _
        refine go1 (fun _ => XS.aload X102.here hx rfl (hb hby at_142) rfl rfl) ?_
        show Go p.tables e below T102 (mkF m 144 #[.val (.int p1), .val (.int p2), .val (.int p3), .val (.int p4), .val (.int (1 : Int32)), .val (.int z89), .val (.ref b91), .val (.ref b91), .val (.ref b94), .val .null, .val (.int z97), .val (.int z99), .val (.int z101), .val (.ref b91), .unset, .unset] [(.ref b94), (.ref b91), (.ref b91), (.ref b102), (.ref b102)]) _
        refine go1 (fun _ => XS.aload X102.here hx rfl (hb hby at_144) rfl rfl) ?_
        show Go p.tables e below T102 (mkF m 146 #[.val (.int p1), .val (.int p2), .val (.int p3), .val (.int p4), .val (.int (1 : Int32)), .val (.int z89), .val (.ref b91), .val (.ref b91), .val (.ref b94), .val .null, .val (.int z97), .val (.int z99), .val (.int z101), .val (.ref b91), .unset, .unset] [.null, (.ref b94), (.ref b91), (.ref b91), (.ref b102), (.ref b102)]) _
        refine go1 (fun _ => XS.iload X102.here hx rfl (hb hby at_146) rfl) ?_
        show Go p.tables e below T102 (mkF m 148 #[.val (.int p1), .val (.int p2), .val (.int p3), .val (.int p4), .val (.int (1 : Int32)), .val (.int z89), .val (.ref b91), .val (.ref b91), .val (.ref b94), .val .null, .val (.int z97), .val (.int z99), .val (.int z101), .val (.ref b91), .unset, .unset] [(.int z97), .null, (.ref b94), (.ref b91), (.ref b91), (.ref b102), (.ref b102)]) _
        refine go1 (fun _ => XS.iload X102.here hx rfl (hb hby at_148) rfl) ?_
        show Go p.tables e below T102 (mkF m 150 #[.val (.int p1), .val (.int p2), .val (.int p3), .val (.int p4), .val (.int (1 : Int32)), .val (.int z89), .val (.ref b91), .val (.ref b91), .val (.ref b94), .val .null, .val (.int z97), .val (.int z99), .val (.int z101), .val (.ref b91), .unset, .unset] [(.int z99), (.int z97), .null, (.ref b94), (.ref b91), (.ref b91), (.ref b102), (.ref b102)]) _
        refine go1 (fun _ => XS.iload X102.here hx rfl (hb hby at_150) rfl) ?_
        show Go p.tables e below T102 (mkF m 152 #[.val (.int p1), .val (.int p2), .val (.int p3), .val (.int p4), .val (.int (1 : Int32)), .val (.int z89), .val (.ref b91), .val (.ref b91), .val (.ref b94), .val .null, .val (.int z97), .val (.int z99), .val (.int z101), .val (.ref b91), .unset, .unset] [(.int z101), (.int z99), (.int z97), .null, (.ref b94), (.ref b91), (.ref b91), (.ref b102), (.ref b102)]) _
        obtain ⟨_, _, ⟨T103, L103, k103, n103⟩, -, X103, ⟨Lc103, hQ103, l103, y103, z103⟩, st103⟩ := X102.specialBack hx (y := (⟨"com/example/enrout/enrout/broker/cli/Option", "<init>", "(Ljava/lang/String;Ljava/lang/String;Ljava/lang/String;Ljava/lang/String;ZZZ)V"⟩ : MethodName)) rfl hown93 (mvT hZ93 (hw _ (List.mem_of_getElem? (i := 15) rfl))) (mvT hZ93 (hw _ (List.mem_of_getElem? (i := 16) rfl))) (mvT hZ93 (hw _ (List.mem_of_getElem? (i := 17) rfl))) (by decide) (backOf (W := 1) (rm2 l Z a0 hw [] b102 (.ref b91) (.ref b91) (.ref b94) .null z97 z99 z101 h102 n0 (Nat.le_trans (Nat.le_trans (Nat.le_trans Z0 K90.1) K93.1) E102.1) F_name_b102 F_value_b102 F_help_b102 F_defaultValue_b102 F_required_b102 F_repeatable_b102 F_several_b102 A102 g_b102 (by first | assumption | decide | rfl) (by first | assumption | decide | rfl) (by first | assumption | decide | rfl) (by first | assumption | decide | rfl)) hZ93 (hw _ (List.mem_of_getElem? (i := 17) rfl)) (hw _ (List.mem_of_getElem? (i := 14) rfl)) (by decide) (by decide)) (g := (mkF m 152 #[.val (.int p1), .val (.int p2), .val (.int p3), .val (.int p4), .val (.int (1 : Int32)), .val (.int z89), .val (.ref b91), .val (.ref b91), .val (.ref b94), .val .null, .val (.int z97), .val (.int z99), .val (.int z101), .val (.ref b91), .unset, .unset] [(.int z101), (.int z99), (.int z97), .null, (.ref b94), (.ref b91), (.ref b91), (.ref b102), (.ref b102)])) rfl (by rw [hml]; rfl) (Steps.refl _) (a := b102) (argsL := [(.ref b91), (.ref b91), (.ref b94), .null, (.int z97), (.int z99), (.int z101)]) (rest := [(.ref b102)]) (lenOf pd0_1 rfl) rfl (by show 2 * 0 + _ ≤ _; exact Nat.le_of_eq rfl) (hb hby at_152) (fun _ _ => ⟨rfl, e102, (by decide : 7 + 0 ≤ _), (by decide : 23 + 0 ≤ _)⟩)
        dsimp only [Pt.U, Pt.locs, Pt.cells, Pt.slots] at X103 l103 y103 z103 st103 hQ103
        subst l103 y103 z103
        obtain ⟨rfl, N103q, K103, G103_0, G103_1⟩ := hQ103
        have N103 := Fr.app N93 N103q
        refine goT st103 ?_
        show Go p.tables e below T103 (mkF m 155 #[.val (.int p1), .val (.int p2), .val (.int p3), .val (.int p4), .val (.int (1 : Int32)), .val (.int z89), .val (.ref b91), .val (.ref b91), .val (.ref b94), .val .null, .val (.int z97), .val (.int z99), .val (.int z101), .val (.ref b91), .unset, .unset] [(.ref b102)]) _
        refine go1 (fun _ => XS.astore X103.here hx rfl (hb hby at_155) rfl rfl (l' := #[.val (.int p1), .val (.int p2), .val (.int p3), .val (.int p4), .val (.int (1 : Int32)), .val (.int z89), .val (.ref b91), .val (.ref b91), .val (.ref b94), .val .null, .val (.int z97), .val (.int z99), .val (.int z101), .val (.ref b91), .val (.ref b102), .unset]) rfl) ?_
        show Go p.tables e below T103 (mkF m 157 #[.val (.int p1), .val (.int p2), .val (.int p3), .val (.int p4), .val (.int (1 : Int32)), .val (.int z89), .val (.ref b91), .val (.ref b91), .val (.ref b94), .val .null, .val (.int z97), .val (.int z99), .val (.int z101), .val (.ref b91), .val (.ref b102), .unset] []) _
        refine go1 (fun _ => XS.aload X103.here hx rfl (hb hby at_157) rfl rfl) ?_
        show Go p.tables e below T103 (mkF m 159 #[.val (.int p1), .val (.int p2), .val (.int p3), .val (.int p4), .val (.int (1 : Int32)), .val (.int z89), .val (.ref b91), .val (.ref b91), .val (.ref b94), .val .null, .val (.int z97), .val (.int z99), .val (.int z101), .val (.ref b91), .val (.ref b102), .unset] [(.ref b102)]) _
        obtain ⟨cq104, kq104, q104a, q104b, q104c⟩ := isOf hZ93 rfl G103_0
        obtain ⟨_, _, ⟨T104, L104, k104, n104⟩, -, X104, ⟨Lc104, hQ104, l104, y104, z104⟩, st104⟩ := X103.virtualBack hx (y := (⟨"com/example/enrout/enrout/broker/cli/Option", "isFlag", "()Z"⟩ : MethodName)) (z := (⟨"com/example/enrout/enrout/broker/cli/Option", "isFlag", "()Z"⟩ : MethodName)) hown93 (mvT hZ93 (hw _ (List.mem_of_getElem? (i := 40) rfl))) (mvT hZ93 (hw _ (List.mem_of_getElem? (i := 41) rfl))) (notFace_of_selects (args := #[]) (mvT hZ93 (hw _ (List.mem_of_getElem? (i := 43) rfl)))) (mvT hZ93 (hw _ (List.mem_of_getElem? (i := 43) rfl))) (mvT hZ93 (hw _ (List.mem_of_getElem? (i := 42) rfl))) (by decide) (backOf (W := 0) (rmisb l Z a0 hw [] b102 b91 T103.heap n0 (Nat.le_trans (Nat.le_trans (Nat.le_trans (Nat.le_trans Z0 K90.1) K93.1) E102.1) K103.1) G103_1) hZ93 (hw _ (List.mem_of_getElem? (i := 44) rfl)) (hw _ (List.mem_of_getElem? (i := 14) rfl)) (by decide) (by decide)) q104a q104c (g := (mkF m 159 #[.val (.int p1), .val (.int p2), .val (.int p3), .val (.int p4), .val (.int (1 : Int32)), .val (.int z89), .val (.ref b91), .val (.ref b91), .val (.ref b94), .val .null, .val (.int z97), .val (.int z99), .val (.int z101), .val (.ref b91), .val (.ref b102), .unset] [(.ref b102)])) rfl (by rw [hml]; rfl) (Steps.refl _) (argsL := []) (rest := []) (lenOf pd0_2 rfl) rfl (by show 2 * 0 + _ ≤ _; exact Nat.le_of_eq rfl) (hb hby at_159) (fun _ _ => ⟨rfl, rfl, (by decide : 7 + 0 ≤ _), (by decide : 23 + 0 ≤ _)⟩)
        dsimp only [Pt.U, Pt.locs, Pt.cells, Pt.slots] at X104 l104 y104 z104 st104 hQ104
        subst l104 y104 z104
        obtain ⟨rfl, N104q, e104⟩ := hQ104
        have N104 := Fr.app N103 N104q
        refine goT st104 ?_
        show Go p.tables e below T104 (mkF m 162 #[.val (.int p1), .val (.int p2), .val (.int p3), .val (.int p4), .val (.int (1 : Int32)), .val (.int z89), .val (.ref b91), .val (.ref b91), .val (.ref b94), .val .null, .val (.int z97), .val (.int z99), .val (.int z101), .val (.ref b91), .val (.ref b102), .unset] [(.int (0 : Int32))]) _
        refine go1 (fun _ => XS.iload X104.here hx rfl (hb hby at_162) rfl) ?_
        show Go p.tables e below T104 (mkF m 164 #[.val (.int p1), .val (.int p2), .val (.int p3), .val (.int p4), .val (.int (1 : Int32)), .val (.int z89), .val (.ref b91), .val (.ref b91), .val (.ref b94), .val .null, .val (.int z97), .val (.int z99), .val (.int z101), .val (.ref b91), .val (.ref b102), .unset] [(.int (1 : Int32)), (.int (0 : Int32))]) _
        refine go1 (fun _ => XS.ifYes X104.here hx rfl (pc0 := 164) (pc' := 171) rfl (hb hby at_164) rfl ((if0 _ _).trans (feq (by decide : ¬ ((1 : Int32) = (0 : Int32)))).2) (by decide) (by decide)) ?_
        show Go p.tables e below T104 (mkF m 171 #[.val (.int p1), .val (.int p2), .val (.int p3), .val (.int p4), .val (.int (1 : Int32)), .val (.int z89), .val (.ref b91), .val (.ref b91), .val (.ref b94), .val .null, .val (.int z97), .val (.int z99), .val (.int z101), .val (.ref b91), .val (.ref b102), .unset] [(.int (0 : Int32))]) _
        refine go1 (fun _ => XS.iconst X104.here hx rfl (hb hby at_171)) ?_
        show Go p.tables e below T104 (mkF m 172 #[.val (.int p1), .val (.int p2), .val (.int p3), .val (.int p4), .val (.int (1 : Int32)), .val (.int z89), .val (.ref b91), .val (.ref b91), .val (.ref b94), .val .null, .val (.int z97), .val (.int z99), .val (.int z101), .val (.ref b91), .val (.ref b102), .unset] [(.int (0 : Int32)), (.int (0 : Int32))]) _
        refine go1 (fun _ => XS.icmpNo X104.here hx rfl (hb hby at_172) rfl (teq (by decide : (0 : Int32) = (0 : Int32))).2) ?_
        show Go p.tables e below T104 (mkF m 175 #[.val (.int p1), .val (.int p2), .val (.int p3), .val (.int p4), .val (.int (1 : Int32)), .val (.int z89), .val (.ref b91), .val (.ref b91), .val (.ref b94), .val .null, .val (.int z97), .val (.int z99), .val (.int z101), .val (.ref b91), .val (.ref b102), .unset] []) _
        refine go1 (fun _ => XS.iconst X104.here hx rfl (hb hby at_175)) ?_
        show Go p.tables e below T104 (mkF m 176 #[.val (.int p1), .val (.int p2), .val (.int p3), .val (.int p4), .val (.int (1 : Int32)), .val (.int z89), .val (.ref b91), .val (.ref b91), .val (.ref b94), .val .null, .val (.int z97), .val (.int z99), .val (.int z101), .val (.ref b91), .val (.ref b102), .unset] [(.int (1 : Int32))]) _
        refine go1 (fun _ => XS.goto X104.here hx rfl (pc0 := 176) (pc' := 180) rfl (hb hby at_176) (by decide) (by decide)) ?_
        show Go p.tables e below T104 (mkF m 180 #[.val (.int p1), .val (.int p2), .val (.int p3), .val (.int p4), .val (.int (1 : Int32)), .val (.int z89), .val (.ref b91), .val (.ref b91), .val (.ref b94), .val .null, .val (.int z97), .val (.int z99), .val (.int z101), .val (.ref b91), .val (.ref b102), .unset] [(.int (1 : Int32))]) _
        refine go1 (fun _ => XS.istore X104.here hx rfl (hb hby at_180) rfl (l' := #[.val (.int p1), .val (.int p2), .val (.int p3), .val (.int p4), .val (.int (1 : Int32)), .val (.int z89), .val (.ref b91), .val (.ref b91), .val (.ref b94), .val .null, .val (.int z97), .val (.int z99), .val (.int z101), .val (.ref b91), .val (.ref b102), .val (.int (1 : Int32))]) rfl) ?_
        show Go p.tables e below T104 (mkF m 182 #[.val (.int p1), .val (.int p2), .val (.int p3), .val (.int p4), .val (.int (1 : Int32)), .val (.int z89), .val (.ref b91), .val (.ref b91), .val (.ref b94), .val .null, .val (.int z97), .val (.int z99), .val (.int z101), .val (.ref b91), .val (.ref b102), .val (.int (1 : Int32))] []) _
        refine go1 (fun _ => XS.iload X104.here hx rfl (hb hby at_182) rfl) ?_
        show Go p.tables e below T104 (mkF m 184 #[.val (.int p1), .val (.int p2), .val (.int p3), .val (.int p4), .val (.int (1 : Int32)), .val (.int z89), .val (.ref b91), .val (.ref b91), .val (.ref b94), .val .null, .val (.int z97), .val (.int z99), .val (.int z101), .val (.ref b91), .val (.ref b102), .val (.int (1 : Int32))] [(.int (1 : Int32))]) _
        refine go1 (fun _ => XS.ifNo X104.here hx rfl (hb hby at_184) rfl ((if0 _ _).trans (feq (by decide : ¬ ((1 : Int32) = (0 : Int32)))).1)) ?_
        show Go p.tables e below T104 (mkF m 187 #[.val (.int p1), .val (.int p2), .val (.int p3), .val (.int p4), .val (.int (1 : Int32)), .val (.int z89), .val (.ref b91), .val (.ref b91), .val (.ref b94), .val .null, .val (.int z97), .val (.int z99), .val (.int z101), .val (.ref b91), .val (.ref b102), .val (.int (1 : Int32))] []) _
        refine go1 (fun _ => XS.aload X104.here hx rfl (hb hby at_187) rfl rfl) ?_
        show Go p.tables e below T104 (mkF m 189 #[.val (.int p1), .val (.int p2), .val (.int p3), .val (.int p4), .val (.int (1 : Int32)), .val (.int z89), .val (.ref b91), .val (.ref b91), .val (.ref b94), .val .null, .val (.int z97), .val (.int z99), .val (.int z101), .val (.ref b91), .val (.ref b102), .val (.int (1 : Int32))] [(.ref b91)]) _
        refine go1 (fun _ => XS.aload X104.here hx rfl (hb hby at_189) rfl rfl) ?_
        show Go p.tables e below T104 (mkF m 191 #[.val (.int p1), .val (.int p2), .val (.int p3), .val (.int p4), .val (.int (1 : Int32)), .val (.int z89), .val (.ref b91), .val (.ref b91), .val (.ref b94), .val .null, .val (.int z97), .val (.int z99), .val (.int z101), .val (.ref b91), .val (.ref b102), .val (.int (1 : Int32))] [(.ref b94), (.ref b91)]) _
        obtain ⟨_, _, ⟨T105, L105, k105, n105⟩, -, X105, ⟨Lc105, hQ105, l105, y105, z105⟩, st105⟩ := Jvm.LawKit.callS X104 hx (y := (⟨"com/example/enrout/enrout/broker/cli/Option", "flag", "(Ljava/lang/String;Ljava/lang/String;)Lcom/example/enrout/enrout/broker/cli/Option;"⟩ : MethodName)) hown93 (mvT hZ93 (hw _ (List.mem_of_getElem? (i := 45) rfl))) (mvT hZ93 (hw _ (List.mem_of_getElem? (i := 46) rfl))) (mvT hZ93 (hw _ (List.mem_of_getElem? (i := 14) rfl))) (mvT hZ93 (hw _ (List.mem_of_getElem? (i := 47) rfl))) (by decide) (backOf (W := 0) (rm6 l Z a0 hw [] b91 b94 T103.heap n0 (Nat.le_trans (Nat.le_trans (Nat.le_trans (Nat.le_trans Z0 K90.1) K93.1) E102.1) K103.1) ) hZ93 (hw _ (List.mem_of_getElem? (i := 47) rfl)) (hw _ (List.mem_of_getElem? (i := 14) rfl)) (by decide) (by decide)) (g := (mkF m 191 #[.val (.int p1), .val (.int p2), .val (.int p3), .val (.int p4), .val (.int (1 : Int32)), .val (.int z89), .val (.ref b91), .val (.ref b91), .val (.ref b94), .val .null, .val (.int z97), .val (.int z99), .val (.int z101), .val (.ref b91), .val (.ref b102), .val (.int (1 : Int32))] [(.ref b94), (.ref b91)])) rfl (by rw [hml]; rfl) (argsL := [(.ref b91), (.ref b94)]) (rest := []) (lenOf pd0_3 rfl) rfl (by show 2 * 0 + _ ≤ _; exact Nat.le_of_eq rfl) (hb hby at_191) (fun _ _ => ⟨rfl, e104, (by decide : 7 + 1 ≤ _), (by decide : 23 + 7 ≤ _)⟩)
        dsimp only [Pt.U, Pt.locs, Pt.cells, Pt.slots] at X105 l105 y105 z105 st105 hQ105
        subst l105 y105 z105
        obtain ⟨b106, rfl, N105q, K105, G105_0, G105_1⟩ := hQ105
        have N105 := Fr.app N104 N105q
        refine go1 st105 ?_
        show Go p.tables e below T105 (mkF m 194 #[.val (.int p1), .val (.int p2), .val (.int p3), .val (.int p4), .val (.int (1 : Int32)), .val (.int z89), .val (.ref b91), .val (.ref b91), .val (.ref b94), .val .null, .val (.int z97), .val (.int z99), .val (.int z101), .val (.ref b91), .val (.ref b102), .val (.int (1 : Int32))] [(.ref b106)]) _
        obtain ⟨cq107, kq107, q107a, q107b, q107c⟩ := isOf hZ93 rfl G105_0
        obtain ⟨_, _, ⟨T107, L107, k107, n107⟩, -, X107, ⟨Lc107, hQ107, l107, y107, z107⟩, st107⟩ := X105.virtualBack hx (y := (⟨"com/example/enrout/enrout/broker/cli/Option", "isFlag", "()Z"⟩ : MethodName)) (z := (⟨"com/example/enrout/enrout/broker/cli/Option", "isFlag", "()Z"⟩ : MethodName)) hown93 (mvT hZ93 (hw _ (List.mem_of_getElem? (i := 40) rfl))) (mvT hZ93 (hw _ (List.mem_of_getElem? (i := 41) rfl))) (notFace_of_selects (args := #[]) (mvT hZ93 (hw _ (List.mem_of_getElem? (i := 43) rfl)))) (mvT hZ93 (hw _ (List.mem_of_getElem? (i := 43) rfl))) (mvT hZ93 (hw _ (List.mem_of_getElem? (i := 42) rfl))) (by decide) (backOf (W := 0) (rmisa l Z a0 hw [] b106 T105.heap n0 (Nat.le_trans (Nat.le_trans (Nat.le_trans (Nat.le_trans (Nat.le_trans Z0 K90.1) K93.1) E102.1) K103.1) K105.1) G105_1) hZ93 (hw _ (List.mem_of_getElem? (i := 44) rfl)) (hw _ (List.mem_of_getElem? (i := 14) rfl)) (by decide) (by decide)) q107a q107c (g := (mkF m 194 #[.val (.int p1), .val (.int p2), .val (.int p3), .val (.int p4), .val (.int (1 : Int32)), .val (.int z89), .val (.ref b91), .val (.ref b91), .val (.ref b94), .val .null, .val (.int z97), .val (.int z99), .val (.int z101), .val (.ref b91), .val (.ref b102), .val (.int (1 : Int32))] [(.ref b106)])) rfl (by rw [hml]; rfl) (Steps.refl _) (argsL := []) (rest := []) (lenOf pd0_2 rfl) rfl (by show 2 * 0 + _ ≤ _; exact Nat.le_of_eq rfl) (hb hby at_194) (fun _ _ => ⟨rfl, rfl, (by decide : 8 + 0 ≤ _), (by decide : 30 + 0 ≤ _)⟩)
        dsimp only [Pt.U, Pt.locs, Pt.cells, Pt.slots] at X107 l107 y107 z107 st107 hQ107
        subst l107 y107 z107
        obtain ⟨rfl, N107q, e107⟩ := hQ107
        have N107 := Fr.app N105 N107q
        refine goT st107 ?_
        show Go p.tables e below T107 (mkF m 197 #[.val (.int p1), .val (.int p2), .val (.int p3), .val (.int p4), .val (.int (1 : Int32)), .val (.int z89), .val (.ref b91), .val (.ref b91), .val (.ref b94), .val .null, .val (.int z97), .val (.int z99), .val (.int z101), .val (.ref b91), .val (.ref b102), .val (.int (1 : Int32))] [(.int (1 : Int32))]) _
        refine go1 (fun _ => XS.ifNo X107.here hx rfl (hb hby at_197) rfl ((if0 _ _).trans (feq (by decide : ¬ ((1 : Int32) = (0 : Int32)))).1)) ?_
        show Go p.tables e below T107 (mkF m 200 #[.val (.int p1), .val (.int p2), .val (.int p3), .val (.int p4), .val (.int (1 : Int32)), .val (.int z89), .val (.ref b91), .val (.ref b91), .val (.ref b94), .val .null, .val (.int z97), .val (.int z99), .val (.int z101), .val (.ref b91), .val (.ref b102), .val (.int (1 : Int32))] []) _
        refine go1 (fun _ => XS.iconst X107.here hx rfl (hb hby at_200)) ?_
        show Go p.tables e below T107 (mkF m 201 #[.val (.int p1), .val (.int p2), .val (.int p3), .val (.int p4), .val (.int (1 : Int32)), .val (.int z89), .val (.ref b91), .val (.ref b91), .val (.ref b94), .val .null, .val (.int z97), .val (.int z99), .val (.int z101), .val (.ref b91), .val (.ref b102), .val (.int (1 : Int32))] [(.int (1 : Int32))]) _
        refine go1 (fun _ => XS.goto X107.here hx rfl (pc0 := 201) (pc' := 205) rfl (hb hby at_201) (by decide) (by decide)) ?_
        show Go p.tables e below T107 (mkF m 205 #[.val (.int p1), .val (.int p2), .val (.int p3), .val (.int p4), .val (.int (1 : Int32)), .val (.int z89), .val (.ref b91), .val (.ref b91), .val (.ref b94), .val .null, .val (.int z97), .val (.int z99), .val (.int z101), .val (.ref b91), .val (.ref b102), .val (.int (1 : Int32))] [(.int (1 : Int32))]) _
        refine go1 (fun _ => XS.istore X107.here hx rfl (hb hby at_205) rfl (l' := #[.val (.int p1), .val (.int p2), .val (.int p3), .val (.int p4), .val (.int (1 : Int32)), .val (.int z89), .val (.ref b91), .val (.ref b91), .val (.ref b94), .val .null, .val (.int z97), .val (.int z99), .val (.int z101), .val (.ref b91), .val (.ref b102), .val (.int (1 : Int32))]) rfl) ?_
        show Go p.tables e below T107 (mkF m 207 #[.val (.int p1), .val (.int p2), .val (.int p3), .val (.int p4), .val (.int (1 : Int32)), .val (.int z89), .val (.ref b91), .val (.ref b91), .val (.ref b94), .val .null, .val (.int z97), .val (.int z99), .val (.int z101), .val (.ref b91), .val (.ref b102), .val (.int (1 : Int32))] []) _
        refine go1 (fun _ => XS.iload X107.here hx rfl (hb hby at_207) rfl) ?_
        show Go p.tables e below T107 (mkF m 209 #[.val (.int p1), .val (.int p2), .val (.int p3), .val (.int p4), .val (.int (1 : Int32)), .val (.int z89), .val (.ref b91), .val (.ref b91), .val (.ref b94), .val .null, .val (.int z97), .val (.int z99), .val (.int z101), .val (.ref b91), .val (.ref b102), .val (.int (1 : Int32))] [(.int (1 : Int32))]) _
        refine go1 (fun _ => XS.ifNo X107.here hx rfl (hb hby at_209) rfl ((if0 _ _).trans (feq (by decide : ¬ ((1 : Int32) = (0 : Int32)))).1)) ?_
        show Go p.tables e below T107 (mkF m 212 #[.val (.int p1), .val (.int p2), .val (.int p3), .val (.int p4), .val (.int (1 : Int32)), .val (.int z89), .val (.ref b91), .val (.ref b91), .val (.ref b94), .val .null, .val (.int z97), .val (.int z99), .val (.int z101), .val (.ref b91), .val (.ref b102), .val (.int (1 : Int32))] []) _
        refine go1 (fun _ => XS.aload X107.here hx rfl (hb hby at_212) rfl rfl) ?_
        show Go p.tables e below T107 (mkF m 214 #[.val (.int p1), .val (.int p2), .val (.int p3), .val (.int p4), .val (.int (1 : Int32)), .val (.int z89), .val (.ref b91), .val (.ref b91), .val (.ref b94), .val .null, .val (.int z97), .val (.int z99), .val (.int z101), .val (.ref b91), .val (.ref b102), .val (.int (1 : Int32))] [(.ref b91)]) _
        refine go1 (fun _ => XS.aload X107.here hx rfl (hb hby at_214) rfl rfl) ?_
        show Go p.tables e below T107 (mkF m 216 #[.val (.int p1), .val (.int p2), .val (.int p3), .val (.int p4), .val (.int (1 : Int32)), .val (.int z89), .val (.ref b91), .val (.ref b91), .val (.ref b94), .val .null, .val (.int z97), .val (.int z99), .val (.int z101), .val (.ref b91), .val (.ref b102), .val (.int (1 : Int32))] [(.ref b94), (.ref b91)]) _
        obtain ⟨_, _, ⟨T108, L108, k108, n108⟩, -, X108, ⟨Lc108, hQ108, l108, y108, z108⟩, st108⟩ := Jvm.LawKit.callS X107 hx (y := (⟨"com/example/enrout/enrout/broker/cli/Option", "operand", "(Ljava/lang/String;Ljava/lang/String;)Lcom/example/enrout/enrout/broker/cli/Option;"⟩ : MethodName)) hown93 (mvT hZ93 (hw _ (List.mem_of_getElem? (i := 50) rfl))) (mvT hZ93 (hw _ (List.mem_of_getElem? (i := 51) rfl))) (mvT hZ93 (hw _ (List.mem_of_getElem? (i := 14) rfl))) (mvT hZ93 (hw _ (List.mem_of_getElem? (i := 52) rfl))) (by decide) (backOf (W := 0) (rm7 l Z a0 hw [] b91 b94 T105.heap n0 (Nat.le_trans (Nat.le_trans (Nat.le_trans (Nat.le_trans (Nat.le_trans Z0 K90.1) K93.1) E102.1) K103.1) K105.1) ) hZ93 (hw _ (List.mem_of_getElem? (i := 52) rfl)) (hw _ (List.mem_of_getElem? (i := 14) rfl)) (by decide) (by decide)) (g := (mkF m 216 #[.val (.int p1), .val (.int p2), .val (.int p3), .val (.int p4), .val (.int (1 : Int32)), .val (.int z89), .val (.ref b91), .val (.ref b91), .val (.ref b94), .val .null, .val (.int z97), .val (.int z99), .val (.int z101), .val (.ref b91), .val (.ref b102), .val (.int (1 : Int32))] [(.ref b94), (.ref b91)])) rfl (by rw [hml]; rfl) (argsL := [(.ref b91), (.ref b94)]) (rest := []) (lenOf pd0_3 rfl) rfl (by show 2 * 0 + _ ≤ _; exact Nat.le_of_eq rfl) (hb hby at_216) (fun _ _ => ⟨rfl, e107, (by decide : 8 + 1 ≤ _), (by decide : 30 + 7 ≤ _)⟩)
        dsimp only [Pt.U, Pt.locs, Pt.cells, Pt.slots] at X108 l108 y108 z108 st108 hQ108
        subst l108 y108 z108
        obtain ⟨b109, rfl, N108q, K108, G108_0, G108_1⟩ := hQ108
        have N108 := Fr.app N107 N108q
        refine go1 st108 ?_
        show Go p.tables e below T108 (mkF m 219 #[.val (.int p1), .val (.int p2), .val (.int p3), .val (.int p4), .val (.int (1 : Int32)), .val (.int z89), .val (.ref b91), .val (.ref b91), .val (.ref b94), .val .null, .val (.int z97), .val (.int z99), .val (.int z101), .val (.ref b91), .val (.ref b102), .val (.int (1 : Int32))] [(.ref b109)]) _
        obtain ⟨cq110, kq110, q110a, q110b, q110c⟩ := isOf hZ93 rfl G108_0
        obtain ⟨_, _, ⟨T110, L110, k110, n110⟩, -, X110, ⟨Lc110, hQ110, l110, y110, z110⟩, st110⟩ := X108.virtualBack hx (y := (⟨"com/example/enrout/enrout/broker/cli/Option", "isFlag", "()Z"⟩ : MethodName)) (z := (⟨"com/example/enrout/enrout/broker/cli/Option", "isFlag", "()Z"⟩ : MethodName)) hown93 (mvT hZ93 (hw _ (List.mem_of_getElem? (i := 40) rfl))) (mvT hZ93 (hw _ (List.mem_of_getElem? (i := 41) rfl))) (notFace_of_selects (args := #[]) (mvT hZ93 (hw _ (List.mem_of_getElem? (i := 43) rfl)))) (mvT hZ93 (hw _ (List.mem_of_getElem? (i := 43) rfl))) (mvT hZ93 (hw _ (List.mem_of_getElem? (i := 42) rfl))) (by decide) (backOf (W := 0) (rmisb l Z a0 hw [] b109 b91 T108.heap n0 (Nat.le_trans (Nat.le_trans (Nat.le_trans (Nat.le_trans (Nat.le_trans (Nat.le_trans Z0 K90.1) K93.1) E102.1) K103.1) K105.1) K108.1) G108_1) hZ93 (hw _ (List.mem_of_getElem? (i := 44) rfl)) (hw _ (List.mem_of_getElem? (i := 14) rfl)) (by decide) (by decide)) q110a q110c (g := (mkF m 219 #[.val (.int p1), .val (.int p2), .val (.int p3), .val (.int p4), .val (.int (1 : Int32)), .val (.int z89), .val (.ref b91), .val (.ref b91), .val (.ref b94), .val .null, .val (.int z97), .val (.int z99), .val (.int z101), .val (.ref b91), .val (.ref b102), .val (.int (1 : Int32))] [(.ref b109)])) rfl (by rw [hml]; rfl) (Steps.refl _) (argsL := []) (rest := []) (lenOf pd0_2 rfl) rfl (by show 2 * 0 + _ ≤ _; exact Nat.le_of_eq rfl) (hb hby at_219) (fun _ _ => ⟨rfl, rfl, (by decide : 9 + 0 ≤ _), (by decide : 37 + 0 ≤ _)⟩)
        dsimp only [Pt.U, Pt.locs, Pt.cells, Pt.slots] at X110 l110 y110 z110 st110 hQ110
        subst l110 y110 z110
        obtain ⟨rfl, N110q, e110⟩ := hQ110
        have N110 := Fr.app N108 N110q
        refine goT st110 ?_
        show Go p.tables e below T110 (mkF m 222 #[.val (.int p1), .val (.int p2), .val (.int p3), .val (.int p4), .val (.int (1 : Int32)), .val (.int z89), .val (.ref b91), .val (.ref b91), .val (.ref b94), .val .null, .val (.int z97), .val (.int z99), .val (.int z101), .val (.ref b91), .val (.ref b102), .val (.int (1 : Int32))] [(.int (0 : Int32))]) _
        refine go1 (fun _ => XS.ifNo X110.here hx rfl (hb hby at_222) rfl ((if0 _ _).trans (teq (by decide : (0 : Int32) = (0 : Int32))).2)) ?_
        show Go p.tables e below T110 (mkF m 225 #[.val (.int p1), .val (.int p2), .val (.int p3), .val (.int p4), .val (.int (1 : Int32)), .val (.int z89), .val (.ref b91), .val (.ref b91), .val (.ref b94), .val .null, .val (.int z97), .val (.int z99), .val (.int z101), .val (.ref b91), .val (.ref b102), .val (.int (1 : Int32))] []) _
        refine go1 (fun _ => XS.iconst X110.here hx rfl (hb hby at_225)) ?_
        show Go p.tables e below T110 (mkF m 226 #[.val (.int p1), .val (.int p2), .val (.int p3), .val (.int p4), .val (.int (1 : Int32)), .val (.int z89), .val (.ref b91), .val (.ref b91), .val (.ref b94), .val .null, .val (.int z97), .val (.int z99), .val (.int z101), .val (.ref b91), .val (.ref b102), .val (.int (1 : Int32))] [(.int (1 : Int32))]) _
        refine go1 (fun _ => XS.goto X110.here hx rfl (pc0 := 226) (pc' := 230) rfl (hb hby at_226) (by decide) (by decide)) ?_
        show Go p.tables e below T110 (mkF m 230 #[.val (.int p1), .val (.int p2), .val (.int p3), .val (.int p4), .val (.int (1 : Int32)), .val (.int z89), .val (.ref b91), .val (.ref b91), .val (.ref b94), .val .null, .val (.int z97), .val (.int z99), .val (.int z101), .val (.ref b91), .val (.ref b102), .val (.int (1 : Int32))] [(.int (1 : Int32))]) _
        refine go1 (fun _ => XS.istore X110.here hx rfl (hb hby at_230) rfl (l' := #[.val (.int p1), .val (.int p2), .val (.int p3), .val (.int p4), .val (.int (1 : Int32)), .val (.int z89), .val (.ref b91), .val (.ref b91), .val (.ref b94), .val .null, .val (.int z97), .val (.int z99), .val (.int z101), .val (.ref b91), .val (.ref b102), .val (.int (1 : Int32))]) rfl) ?_
        show Go p.tables e below T110 (mkF m 232 #[.val (.int p1), .val (.int p2), .val (.int p3), .val (.int p4), .val (.int (1 : Int32)), .val (.int z89), .val (.ref b91), .val (.ref b91), .val (.ref b94), .val .null, .val (.int z97), .val (.int z99), .val (.int z101), .val (.ref b91), .val (.ref b102), .val (.int (1 : Int32))] []) _
        refine go1 (fun _ => XS.iload X110.here hx rfl (hb hby at_232) rfl) ?_
        show Go p.tables e below T110 (mkF m 234 #[.val (.int p1), .val (.int p2), .val (.int p3), .val (.int p4), .val (.int (1 : Int32)), .val (.int z89), .val (.ref b91), .val (.ref b91), .val (.ref b94), .val .null, .val (.int z97), .val (.int z99), .val (.int z101), .val (.ref b91), .val (.ref b102), .val (.int (1 : Int32))] [(.int (1 : Int32))]) _
        refine go1 (fun _ => XS.ifNo X110.here hx rfl (hb hby at_234) rfl ((if0 _ _).trans (feq (by decide : ¬ ((1 : Int32) = (0 : Int32)))).1)) ?_
        show Go p.tables e below T110 (mkF m 237 #[.val (.int p1), .val (.int p2), .val (.int p3), .val (.int p4), .val (.int (1 : Int32)), .val (.int z89), .val (.ref b91), .val (.ref b91), .val (.ref b94), .val .null, .val (.int z97), .val (.int z99), .val (.int z101), .val (.ref b91), .val (.ref b102), .val (.int (1 : Int32))] []) _
        refine go1 (fun _ => XS.aload X110.here hx rfl (hb hby at_237) rfl rfl) ?_
        show Go p.tables e below T110 (mkF m 239 #[.val (.int p1), .val (.int p2), .val (.int p3), .val (.int p4), .val (.int (1 : Int32)), .val (.int z89), .val (.ref b91), .val (.ref b91), .val (.ref b94), .val .null, .val (.int z97), .val (.int z99), .val (.int z101), .val (.ref b91), .val (.ref b102), .val (.int (1 : Int32))] [(.ref b91)]) _
        refine go1 (fun _ => XS.aload X110.here hx rfl (hb hby at_239) rfl rfl) ?_
        show Go p.tables e below T110 (mkF m 241 #[.val (.int p1), .val (.int p2), .val (.int p3), .val (.int p4), .val (.int (1 : Int32)), .val (.int z89), .val (.ref b91), .val (.ref b91), .val (.ref b94), .val .null, .val (.int z97), .val (.int z99), .val (.int z101), .val (.ref b91), .val (.ref b102), .val (.int (1 : Int32))] [(.ref b91), (.ref b91)]) _
        refine go1 (fun _ => XS.aload X110.here hx rfl (hb hby at_241) rfl rfl) ?_
        show Go p.tables e below T110 (mkF m 243 #[.val (.int p1), .val (.int p2), .val (.int p3), .val (.int p4), .val (.int (1 : Int32)), .val (.int z89), .val (.ref b91), .val (.ref b91), .val (.ref b94), .val .null, .val (.int z97), .val (.int z99), .val (.int z101), .val (.ref b91), .val (.ref b102), .val (.int (1 : Int32))] [(.ref b94), (.ref b91), (.ref b91)]) _
        obtain ⟨_, _, ⟨T111, L111, k111, n111⟩, -, X111, ⟨Lc111, hQ111, l111, y111, z111⟩, st111⟩ := Jvm.LawKit.callS X110 hx (y := (⟨"com/example/enrout/enrout/broker/cli/Option", "optional", "(Ljava/lang/String;Ljava/lang/String;Ljava/lang/String;)Lcom/example/enrout/enrout/broker/cli/Option;"⟩ : MethodName)) hown93 (mvT hZ93 (hw _ (List.mem_of_getElem? (i := 53) rfl))) (mvT hZ93 (hw _ (List.mem_of_getElem? (i := 54) rfl))) (mvT hZ93 (hw _ (List.mem_of_getElem? (i := 14) rfl))) (mvT hZ93 (hw _ (List.mem_of_getElem? (i := 55) rfl))) (by decide) (backOf (W := 0) (rm8 l Z a0 hw [] b91 b91 b94 T108.heap n0 (Nat.le_trans (Nat.le_trans (Nat.le_trans (Nat.le_trans (Nat.le_trans (Nat.le_trans Z0 K90.1) K93.1) E102.1) K103.1) K105.1) K108.1) ) hZ93 (hw _ (List.mem_of_getElem? (i := 55) rfl)) (hw _ (List.mem_of_getElem? (i := 14) rfl)) (by decide) (by decide)) (g := (mkF m 243 #[.val (.int p1), .val (.int p2), .val (.int p3), .val (.int p4), .val (.int (1 : Int32)), .val (.int z89), .val (.ref b91), .val (.ref b91), .val (.ref b94), .val .null, .val (.int z97), .val (.int z99), .val (.int z101), .val (.ref b91), .val (.ref b102), .val (.int (1 : Int32))] [(.ref b94), (.ref b91), (.ref b91)])) rfl (by rw [hml]; rfl) (argsL := [(.ref b91), (.ref b91), (.ref b94)]) (rest := []) (lenOf pd0_4 rfl) rfl (by show 2 * 0 + _ ≤ _; exact Nat.le_of_eq rfl) (hb hby at_243) (fun _ _ => ⟨rfl, e110, (by decide : 9 + 1 ≤ _), (by decide : 37 + 7 ≤ _)⟩)
        dsimp only [Pt.U, Pt.locs, Pt.cells, Pt.slots] at X111 l111 y111 z111 st111 hQ111
        subst l111 y111 z111
        obtain ⟨b112, rfl, N111q, K111, G111_0, G111_1⟩ := hQ111
        have N111 := Fr.app N110 N111q
        refine go1 st111 ?_
        show Go p.tables e below T111 (mkF m 246 #[.val (.int p1), .val (.int p2), .val (.int p3), .val (.int p4), .val (.int (1 : Int32)), .val (.int z89), .val (.ref b91), .val (.ref b91), .val (.ref b94), .val .null, .val (.int z97), .val (.int z99), .val (.int z101), .val (.ref b91), .val (.ref b102), .val (.int (1 : Int32))] [(.ref b112)]) _
        obtain ⟨cq113, kq113, q113a, q113b, q113c⟩ := isOf hZ93 rfl G111_0
        obtain ⟨_, _, ⟨T113, L113, k113, n113⟩, -, X113, ⟨Lc113, hQ113, l113, y113, z113⟩, st113⟩ := X111.virtualBack hx (y := (⟨"com/example/enrout/enrout/broker/cli/Option", "isFlag", "()Z"⟩ : MethodName)) (z := (⟨"com/example/enrout/enrout/broker/cli/Option", "isFlag", "()Z"⟩ : MethodName)) hown93 (mvT hZ93 (hw _ (List.mem_of_getElem? (i := 40) rfl))) (mvT hZ93 (hw _ (List.mem_of_getElem? (i := 41) rfl))) (notFace_of_selects (args := #[]) (mvT hZ93 (hw _ (List.mem_of_getElem? (i := 43) rfl)))) (mvT hZ93 (hw _ (List.mem_of_getElem? (i := 43) rfl))) (mvT hZ93 (hw _ (List.mem_of_getElem? (i := 42) rfl))) (by decide) (backOf (W := 0) (rmisb l Z a0 hw [] b112 b91 T111.heap n0 (Nat.le_trans (Nat.le_trans (Nat.le_trans (Nat.le_trans (Nat.le_trans (Nat.le_trans (Nat.le_trans Z0 K90.1) K93.1) E102.1) K103.1) K105.1) K108.1) K111.1) G111_1) hZ93 (hw _ (List.mem_of_getElem? (i := 44) rfl)) (hw _ (List.mem_of_getElem? (i := 14) rfl)) (by decide) (by decide)) q113a q113c (g := (mkF m 246 #[.val (.int p1), .val (.int p2), .val (.int p3), .val (.int p4), .val (.int (1 : Int32)), .val (.int z89), .val (.ref b91), .val (.ref b91), .val (.ref b94), .val .null, .val (.int z97), .val (.int z99), .val (.int z101), .val (.ref b91), .val (.ref b102), .val (.int (1 : Int32))] [(.ref b112)])) rfl (by rw [hml]; rfl) (Steps.refl _) (argsL := []) (rest := []) (lenOf pd0_2 rfl) rfl (by show 2 * 0 + _ ≤ _; exact Nat.le_of_eq rfl) (hb hby at_246) (fun _ _ => ⟨rfl, rfl, (by decide : 10 + 0 ≤ _), (by decide : 44 + 0 ≤ _)⟩)
        dsimp only [Pt.U, Pt.locs, Pt.cells, Pt.slots] at X113 l113 y113 z113 st113 hQ113
        subst l113 y113 z113
        obtain ⟨rfl, N113q, e113⟩ := hQ113
        have N113 := Fr.app N111 N113q
        refine goT st113 ?_
        show Go p.tables e below T113 (mkF m 249 #[.val (.int p1), .val (.int p2), .val (.int p3), .val (.int p4), .val (.int (1 : Int32)), .val (.int z89), .val (.ref b91), .val (.ref b91), .val (.ref b94), .val .null, .val (.int z97), .val (.int z99), .val (.int z101), .val (.ref b91), .val (.ref b102), .val (.int (1 : Int32))] [(.int (0 : Int32))]) _
        refine go1 (fun _ => XS.ifNo X113.here hx rfl (hb hby at_249) rfl ((if0 _ _).trans (teq (by decide : (0 : Int32) = (0 : Int32))).2)) ?_
        show Go p.tables e below T113 (mkF m 252 #[.val (.int p1), .val (.int p2), .val (.int p3), .val (.int p4), .val (.int (1 : Int32)), .val (.int z89), .val (.ref b91), .val (.ref b91), .val (.ref b94), .val .null, .val (.int z97), .val (.int z99), .val (.int z101), .val (.ref b91), .val (.ref b102), .val (.int (1 : Int32))] []) _
        refine go1 (fun _ => XS.iconst X113.here hx rfl (hb hby at_252)) ?_
        show Go p.tables e below T113 (mkF m 253 #[.val (.int p1), .val (.int p2), .val (.int p3), .val (.int p4), .val (.int (1 : Int32)), .val (.int z89), .val (.ref b91), .val (.ref b91), .val (.ref b94), .val .null, .val (.int z97), .val (.int z99), .val (.int z101), .val (.ref b91), .val (.ref b102), .val (.int (1 : Int32))] [(.int (1 : Int32))]) _
        refine go1 (fun _ => XS.goto X113.here hx rfl (pc0 := 253) (pc' := 257) rfl (hb hby at_253) (by decide) (by decide)) ?_
        show Go p.tables e below T113 (mkF m 257 #[.val (.int p1), .val (.int p2), .val (.int p3), .val (.int p4), .val (.int (1 : Int32)), .val (.int z89), .val (.ref b91), .val (.ref b91), .val (.ref b94), .val .null, .val (.int z97), .val (.int z99), .val (.int z101), .val (.ref b91), .val (.ref b102), .val (.int (1 : Int32))] [(.int (1 : Int32))]) _
        refine go1 (fun _ => XS.istore X113.here hx rfl (hb hby at_257) rfl (l' := #[.val (.int p1), .val (.int p2), .val (.int p3), .val (.int p4), .val (.int (1 : Int32)), .val (.int z89), .val (.ref b91), .val (.ref b91), .val (.ref b94), .val .null, .val (.int z97), .val (.int z99), .val (.int z101), .val (.ref b91), .val (.ref b102), .val (.int (1 : Int32))]) rfl) ?_
        show Go p.tables e below T113 (mkF m 259 #[.val (.int p1), .val (.int p2), .val (.int p3), .val (.int p4), .val (.int (1 : Int32)), .val (.int z89), .val (.ref b91), .val (.ref b91), .val (.ref b94), .val .null, .val (.int z97), .val (.int z99), .val (.int z101), .val (.ref b91), .val (.ref b102), .val (.int (1 : Int32))] []) _
        refine go1 (fun _ => XS.iload X113.here hx rfl (hb hby at_259) rfl) ?_
        show Go p.tables e below T113 (mkF m 261 #[.val (.int p1), .val (.int p2), .val (.int p3), .val (.int p4), .val (.int (1 : Int32)), .val (.int z89), .val (.ref b91), .val (.ref b91), .val (.ref b94), .val .null, .val (.int z97), .val (.int z99), .val (.int z101), .val (.ref b91), .val (.ref b102), .val (.int (1 : Int32))] [(.int (1 : Int32))]) _
        refine goRW (s := s) (vm₁ := T93.vm) X113 hS93 (by rw [e113]; exact (Nat.le_trans (Nat.le_trans (Nat.le_trans (Nat.le_trans (Nat.le_trans (Nat.le_refl _) E102.1) K103.1) K105.1) K108.1) K111.1)) (BodyLoose.notSynchronized Bd) (v := (some (.int (1 : Int32)))) (fun h => by rw [Bd.returns] at h; cases h) (Q0 Z p1 p2 p3 p4 a_COMPACT_STRINGS h0 n0) (fun fs hr => retN X113 hx (t := .boolean) Bd.returns (by simp) (hb hby at_261) hr) (by decide) (by decide) ?_
        show Q0 Z p1 p2 p3 p4 a_COMPACT_STRINGS h0 n0 _ T113.heap _
        rw [e113]
        exact ⟨rfl, N113⟩
      · skip
        refine go1 (fun _ => XS.ifNo X93.here hx rfl (hb hby at_71) rfl ((if0 _ _).trans (feq hc95).1)) ?_
        show Go p.tables e below T93 (mkF m 74 #[.val (.int p1), .val (.int p2), .val (.int p3), .val (.int p4), .val (.int (1 : Int32)), .val (.int z89), .val (.ref b91), .val (.ref b91), .val (.ref b94), .unset, .unset, .unset, .unset, .unset, .unset, .unset] []) _
        refine go1 (fun _ => XS.aload X93.here hx rfl (hb hby at_74) rfl rfl) ?_
        show Go p.tables e below T93 (mkF m 76 #[.val (.int p1), .val (.int p2), .val (.int p3), .val (.int p4), .val (.int (1 : Int32)), .val (.int z89), .val (.ref b91), .val (.ref b91), .val (.ref b94), .unset, .unset, .unset, .unset, .unset, .unset, .unset] [(.ref b91)]) _
        refine go1 (fun _ => XS.goto X93.here hx rfl (pc0 := 76) (pc' := 80) rfl (hb hby at_76) (by decide) (by decide)) ?_
        show Go p.tables e below T93 (mkF m 80 #[.val (.int p1), .val (.int p2), .val (.int p3), .val (.int p4), .val (.int (1 : Int32)), .val (.int z89), .val (.ref b91), .val (.ref b91), .val (.ref b94), .unset, .unset, .unset, .unset, .unset, .unset, .unset] [(.ref b91)]) _
        refine go1 (fun _ => XS.astore X93.here hx rfl (hb hby at_80) rfl rfl (l' := #[.val (.int p1), .val (.int p2), .val (.int p3), .val (.int p4), .val (.int (1 : Int32)), .val (.int z89), .val (.ref b91), .val (.ref b91), .val (.ref b94), .val (.ref b91), .unset, .unset, .unset, .unset, .unset, .unset]) rfl) ?_
        show Go p.tables e below T93 (mkF m 82 #[.val (.int p1), .val (.int p2), .val (.int p3), .val (.int p4), .val (.int (1 : Int32)), .val (.int z89), .val (.ref b91), .val (.ref b91), .val (.ref b94), .val (.ref b91), .unset, .unset, .unset, .unset, .unset, .unset] []) _
        refine go1 (fun _ => XS.iloadN X93.here hx rfl (hb hby at_82) rfl) ?_
        show Go p.tables e below T93 (mkF m 83 #[.val (.int p1), .val (.int p2), .val (.int p3), .val (.int p4), .val (.int (1 : Int32)), .val (.int z89), .val (.ref b91), .val (.ref b91), .val (.ref b94), .val (.ref b91), .unset, .unset, .unset, .unset, .unset, .unset] [(.int p4)]) _
        refine go1 (fun _ => XS.iconst X93.here hx rfl (hb hby at_83)) ?_
        show Go p.tables e below T93 (mkF m 84 #[.val (.int p1), .val (.int p2), .val (.int p3), .val (.int p4), .val (.int (1 : Int32)), .val (.int z89), .val (.ref b91), .val (.ref b91), .val (.ref b94), .val (.ref b91), .unset, .unset, .unset, .unset, .unset, .unset] [(.int (1 : Int32)), (.int p4)]) _
        refine go1 (fun _ => XS.iand X93.here hx rfl (hb hby at_84) rfl) ?_
        show Go p.tables e below T93 (mkF m 85 #[.val (.int p1), .val (.int p2), .val (.int p3), .val (.int p4), .val (.int (1 : Int32)), .val (.int z89), .val (.ref b91), .val (.ref b91), .val (.ref b94), .val (.ref b91), .unset, .unset, .unset, .unset, .unset, .unset] [(.int (p4 &&& (1 : Int32)))]) _
        refine go1 (T' := T93) (g' := (mkF m 93 #[.val (.int p1), .val (.int p2), .val (.int p3), .val (.int p4), .val (.int (1 : Int32)), .val (.int z89), .val (.ref b91), .val (.ref b91), .val (.ref b94), .val (.ref b91), .unset, .unset, .unset, .unset, .unset, .unset] [(.int (if (p4 &&& (1 : Int32)) = (0 : Int32) then (0 : Int32) else (1 : Int32)))])) (fun t k => ?_) ?_
        · by_cases hd114 : (p4 &&& (1 : Int32)) = (0 : Int32)
          · skip
            rw [(if_pos hd114 : (if (p4 &&& (1 : Int32)) = (0 : Int32) then (0 : Int32) else (1 : Int32)) = (0 : Int32))] at k
            show Steps p.tables e below (T93.setTop (mkF m 85 #[.val (.int p1), .val (.int p2), .val (.int p3), .val (.int p4), .val (.int (1 : Int32)), .val (.int z89), .val (.ref b91), .val (.ref b91), .val (.ref b94), .val (.ref b91), .unset, .unset, .unset, .unset, .unset, .unset] [(.int (p4 &&& (1 : Int32)))])) _
            refine XS.ifYes X93.here hx rfl (pc0 := 85) (pc' := 92) rfl (hb hby at_85) rfl ((if0 _ _).trans (teq hd114).1) (by decide) (by decide) ?_
            show Steps p.tables e below (T93.setTop (mkF m 92 #[.val (.int p1), .val (.int p2), .val (.int p3), .val (.int p4), .val (.int (1 : Int32)), .val (.int z89), .val (.ref b91), .val (.ref b91), .val (.ref b94), .val (.ref b91), .unset, .unset, .unset, .unset, .unset, .unset] [])) _
            refine XS.iconst X93.here hx rfl (hb hby at_92) ?_
            show Steps p.tables e below (T93.setTop (mkF m 93 #[.val (.int p1), .val (.int p2), .val (.int p3), .val (.int p4), .val (.int (1 : Int32)), .val (.int z89), .val (.ref b91), .val (.ref b91), .val (.ref b94), .val (.ref b91), .unset, .unset, .unset, .unset, .unset, .unset] [(.int (0 : Int32))])) _
            exact k
          · skip
            rw [(if_neg hd114 : (if (p4 &&& (1 : Int32)) = (0 : Int32) then (0 : Int32) else (1 : Int32)) = (1 : Int32))] at k
            show Steps p.tables e below (T93.setTop (mkF m 85 #[.val (.int p1), .val (.int p2), .val (.int p3), .val (.int p4), .val (.int (1 : Int32)), .val (.int z89), .val (.ref b91), .val (.ref b91), .val (.ref b94), .val (.ref b91), .unset, .unset, .unset, .unset, .unset, .unset] [(.int (p4 &&& (1 : Int32)))])) _
            refine XS.ifNo X93.here hx rfl (hb hby at_85) rfl ((if0 _ _).trans (feq hd114).1) ?_
            show Steps p.tables e below (T93.setTop (mkF m 88 #[.val (.int p1), .val (.int p2), .val (.int p3), .val (.int p4), .val (.int (1 : Int32)), .val (.int z89), .val (.ref b91), .val (.ref b91), .val (.ref b94), .val (.ref b91), .unset, .unset, .unset, .unset, .unset, .unset] [])) _
            refine XS.iconst X93.here hx rfl (hb hby at_88) ?_
            show Steps p.tables e below (T93.setTop (mkF m 89 #[.val (.int p1), .val (.int p2), .val (.int p3), .val (.int p4), .val (.int (1 : Int32)), .val (.int z89), .val (.ref b91), .val (.ref b91), .val (.ref b94), .val (.ref b91), .unset, .unset, .unset, .unset, .unset, .unset] [(.int (1 : Int32))])) _
            refine XS.goto X93.here hx rfl (pc0 := 89) (pc' := 93) rfl (hb hby at_89) (by decide) (by decide) ?_
            show Steps p.tables e below (T93.setTop (mkF m 93 #[.val (.int p1), .val (.int p2), .val (.int p3), .val (.int p4), .val (.int (1 : Int32)), .val (.int z89), .val (.ref b91), .val (.ref b91), .val (.ref b94), .val (.ref b91), .unset, .unset, .unset, .unset, .unset, .unset] [(.int (1 : Int32))])) _
            exact k
        show Go p.tables e below T93 (mkF m 93 #[.val (.int p1), .val (.int p2), .val (.int p3), .val (.int p4), .val (.int (1 : Int32)), .val (.int z89), .val (.ref b91), .val (.ref b91), .val (.ref b94), .val (.ref b91), .unset, .unset, .unset, .unset, .unset, .unset] [(.int (if (p4 &&& (1 : Int32)) = (0 : Int32) then (0 : Int32) else (1 : Int32)))]) _
        obtain ⟨z115, hz115⟩ : ∃ z : Int32, z = (if (p4 &&& (1 : Int32)) = (0 : Int32) then (0 : Int32) else (1 : Int32)) := ⟨_, rfl⟩
        rw [← hz115]
        show Go p.tables e below T93 (mkF m 93 #[.val (.int p1), .val (.int p2), .val (.int p3), .val (.int p4), .val (.int (1 : Int32)), .val (.int z89), .val (.ref b91), .val (.ref b91), .val (.ref b94), .val (.ref b91), .unset, .unset, .unset, .unset, .unset, .unset] [(.int z115)]) _
        refine go1 (fun _ => XS.istore X93.here hx rfl (hb hby at_93) rfl (l' := #[.val (.int p1), .val (.int p2), .val (.int p3), .val (.int p4), .val (.int (1 : Int32)), .val (.int z89), .val (.ref b91), .val (.ref b91), .val (.ref b94), .val (.ref b91), .val (.int z115), .unset, .unset, .unset, .unset, .unset]) rfl) ?_
        show Go p.tables e below T93 (mkF m 95 #[.val (.int p1), .val (.int p2), .val (.int p3), .val (.int p4), .val (.int (1 : Int32)), .val (.int z89), .val (.ref b91), .val (.ref b91), .val (.ref b94), .val (.ref b91), .val (.int z115), .unset, .unset, .unset, .unset, .unset] []) _
        refine go1 (fun _ => XS.iloadN X93.here hx rfl (hb hby at_95) rfl) ?_
        show Go p.tables e below T93 (mkF m 96 #[.val (.int p1), .val (.int p2), .val (.int p3), .val (.int p4), .val (.int (1 : Int32)), .val (.int z89), .val (.ref b91), .val (.ref b91), .val (.ref b94), .val (.ref b91), .val (.int z115), .unset, .unset, .unset, .unset, .unset] [(.int p4)]) _
        refine go1 (fun _ => XS.iconst X93.here hx rfl (hb hby at_96)) ?_
        show Go p.tables e below T93 (mkF m 97 #[.val (.int p1), .val (.int p2), .val (.int p3), .val (.int p4), .val (.int (1 : Int32)), .val (.int z89), .val (.ref b91), .val (.ref b91), .val (.ref b94), .val (.ref b91), .val (.int z115), .unset, .unset, .unset, .unset, .unset] [(.int (2 : Int32)), (.int p4)]) _
        refine go1 (fun _ => XS.iand X93.here hx rfl (hb hby at_97) rfl) ?_
        show Go p.tables e below T93 (mkF m 98 #[.val (.int p1), .val (.int p2), .val (.int p3), .val (.int p4), .val (.int (1 : Int32)), .val (.int z89), .val (.ref b91), .val (.ref b91), .val (.ref b94), .val (.ref b91), .val (.int z115), .unset, .unset, .unset, .unset, .unset] [(.int (p4 &&& (2 : Int32)))]) _
        refine go1 (T' := T93) (g' := (mkF m 106 #[.val (.int p1), .val (.int p2), .val (.int p3), .val (.int p4), .val (.int (1 : Int32)), .val (.int z89), .val (.ref b91), .val (.ref b91), .val (.ref b94), .val (.ref b91), .val (.int z115), .unset, .unset, .unset, .unset, .unset] [(.int (if (p4 &&& (2 : Int32)) = (0 : Int32) then (0 : Int32) else (1 : Int32)))])) (fun t k => ?_) ?_
        · by_cases hd116 : (p4 &&& (2 : Int32)) = (0 : Int32)
          · skip
            rw [(if_pos hd116 : (if (p4 &&& (2 : Int32)) = (0 : Int32) then (0 : Int32) else (1 : Int32)) = (0 : Int32))] at k
            show Steps p.tables e below (T93.setTop (mkF m 98 #[.val (.int p1), .val (.int p2), .val (.int p3), .val (.int p4), .val (.int (1 : Int32)), .val (.int z89), .val (.ref b91), .val (.ref b91), .val (.ref b94), .val (.ref b91), .val (.int z115), .unset, .unset, .unset, .unset, .unset] [(.int (p4 &&& (2 : Int32)))])) _
            refine XS.ifYes X93.here hx rfl (pc0 := 98) (pc' := 105) rfl (hb hby at_98) rfl ((if0 _ _).trans (teq hd116).1) (by decide) (by decide) ?_
            show Steps p.tables e below (T93.setTop (mkF m 105 #[.val (.int p1), .val (.int p2), .val (.int p3), .val (.int p4), .val (.int (1 : Int32)), .val (.int z89), .val (.ref b91), .val (.ref b91), .val (.ref b94), .val (.ref b91), .val (.int z115), .unset, .unset, .unset, .unset, .unset] [])) _
            refine XS.iconst X93.here hx rfl (hb hby at_105) ?_
            show Steps p.tables e below (T93.setTop (mkF m 106 #[.val (.int p1), .val (.int p2), .val (.int p3), .val (.int p4), .val (.int (1 : Int32)), .val (.int z89), .val (.ref b91), .val (.ref b91), .val (.ref b94), .val (.ref b91), .val (.int z115), .unset, .unset, .unset, .unset, .unset] [(.int (0 : Int32))])) _
            exact k
          · skip
            rw [(if_neg hd116 : (if (p4 &&& (2 : Int32)) = (0 : Int32) then (0 : Int32) else (1 : Int32)) = (1 : Int32))] at k
            show Steps p.tables e below (T93.setTop (mkF m 98 #[.val (.int p1), .val (.int p2), .val (.int p3), .val (.int p4), .val (.int (1 : Int32)), .val (.int z89), .val (.ref b91), .val (.ref b91), .val (.ref b94), .val (.ref b91), .val (.int z115), .unset, .unset, .unset, .unset, .unset] [(.int (p4 &&& (2 : Int32)))])) _
            refine XS.ifNo X93.here hx rfl (hb hby at_98) rfl ((if0 _ _).trans (feq hd116).1) ?_
            show Steps p.tables e below (T93.setTop (mkF m 101 #[.val (.int p1), .val (.int p2), .val (.int p3), .val (.int p4), .val (.int (1 : Int32)), .val (.int z89), .val (.ref b91), .val (.ref b91), .val (.ref b94), .val (.ref b91), .val (.int z115), .unset, .unset, .unset, .unset, .unset] [])) _
            refine XS.iconst X93.here hx rfl (hb hby at_101) ?_
            show Steps p.tables e below (T93.setTop (mkF m 102 #[.val (.int p1), .val (.int p2), .val (.int p3), .val (.int p4), .val (.int (1 : Int32)), .val (.int z89), .val (.ref b91), .val (.ref b91), .val (.ref b94), .val (.ref b91), .val (.int z115), .unset, .unset, .unset, .unset, .unset] [(.int (1 : Int32))])) _
            refine XS.goto X93.here hx rfl (pc0 := 102) (pc' := 106) rfl (hb hby at_102) (by decide) (by decide) ?_
            show Steps p.tables e below (T93.setTop (mkF m 106 #[.val (.int p1), .val (.int p2), .val (.int p3), .val (.int p4), .val (.int (1 : Int32)), .val (.int z89), .val (.ref b91), .val (.ref b91), .val (.ref b94), .val (.ref b91), .val (.int z115), .unset, .unset, .unset, .unset, .unset] [(.int (1 : Int32))])) _
            exact k
        show Go p.tables e below T93 (mkF m 106 #[.val (.int p1), .val (.int p2), .val (.int p3), .val (.int p4), .val (.int (1 : Int32)), .val (.int z89), .val (.ref b91), .val (.ref b91), .val (.ref b94), .val (.ref b91), .val (.int z115), .unset, .unset, .unset, .unset, .unset] [(.int (if (p4 &&& (2 : Int32)) = (0 : Int32) then (0 : Int32) else (1 : Int32)))]) _
        obtain ⟨z117, hz117⟩ : ∃ z : Int32, z = (if (p4 &&& (2 : Int32)) = (0 : Int32) then (0 : Int32) else (1 : Int32)) := ⟨_, rfl⟩
        rw [← hz117]
        show Go p.tables e below T93 (mkF m 106 #[.val (.int p1), .val (.int p2), .val (.int p3), .val (.int p4), .val (.int (1 : Int32)), .val (.int z89), .val (.ref b91), .val (.ref b91), .val (.ref b94), .val (.ref b91), .val (.int z115), .unset, .unset, .unset, .unset, .unset] [(.int z117)]) _
        refine go1 (fun _ => XS.istore X93.here hx rfl (hb hby at_106) rfl (l' := #[.val (.int p1), .val (.int p2), .val (.int p3), .val (.int p4), .val (.int (1 : Int32)), .val (.int z89), .val (.ref b91), .val (.ref b91), .val (.ref b94), .val (.ref b91), .val (.int z115), .val (.int z117), .unset, .unset, .unset, .unset]) rfl) ?_
        show Go p.tables e below T93 (mkF m 108 #[.val (.int p1), .val (.int p2), .val (.int p3), .val (.int p4), .val (.int (1 : Int32)), .val (.int z89), .val (.ref b91), .val (.ref b91), .val (.ref b94), .val (.ref b91), .val (.int z115), .val (.int z117), .unset, .unset, .unset, .unset] []) _
        refine go1 (fun _ => XS.iloadN X93.here hx rfl (hb hby at_108) rfl) ?_
        show Go p.tables e below T93 (mkF m 109 #[.val (.int p1), .val (.int p2), .val (.int p3), .val (.int p4), .val (.int (1 : Int32)), .val (.int z89), .val (.ref b91), .val (.ref b91), .val (.ref b94), .val (.ref b91), .val (.int z115), .val (.int z117), .unset, .unset, .unset, .unset] [(.int p4)]) _
        refine go1 (fun _ => XS.iconst X93.here hx rfl (hb hby at_109)) ?_
        show Go p.tables e below T93 (mkF m 110 #[.val (.int p1), .val (.int p2), .val (.int p3), .val (.int p4), .val (.int (1 : Int32)), .val (.int z89), .val (.ref b91), .val (.ref b91), .val (.ref b94), .val (.ref b91), .val (.int z115), .val (.int z117), .unset, .unset, .unset, .unset] [(.int (4 : Int32)), (.int p4)]) _
        refine go1 (fun _ => XS.iand X93.here hx rfl (hb hby at_110) rfl) ?_
        show Go p.tables e below T93 (mkF m 111 #[.val (.int p1), .val (.int p2), .val (.int p3), .val (.int p4), .val (.int (1 : Int32)), .val (.int z89), .val (.ref b91), .val (.ref b91), .val (.ref b94), .val (.ref b91), .val (.int z115), .val (.int z117), .unset, .unset, .unset, .unset] [(.int (p4 &&& (4 : Int32)))]) _
        refine go1 (T' := T93) (g' := (mkF m 119 #[.val (.int p1), .val (.int p2), .val (.int p3), .val (.int p4), .val (.int (1 : Int32)), .val (.int z89), .val (.ref b91), .val (.ref b91), .val (.ref b94), .val (.ref b91), .val (.int z115), .val (.int z117), .unset, .unset, .unset, .unset] [(.int (if (p4 &&& (4 : Int32)) = (0 : Int32) then (0 : Int32) else (1 : Int32)))])) (fun t k => ?_) ?_
        · by_cases hd118 : (p4 &&& (4 : Int32)) = (0 : Int32)
          · skip
            rw [(if_pos hd118 : (if (p4 &&& (4 : Int32)) = (0 : Int32) then (0 : Int32) else (1 : Int32)) = (0 : Int32))] at k
            show Steps p.tables e below (T93.setTop (mkF m 111 #[.val (.int p1), .val (.int p2), .val (.int p3), .val (.int p4), .val (.int (1 : Int32)), .val (.int z89), .val (.ref b91), .val (.ref b91), .val (.ref b94), .val (.ref b91), .val (.int z115), .val (.int z117), .unset, .unset, .unset, .unset] [(.int (p4 &&& (4 : Int32)))])) _
            refine XS.ifYes X93.here hx rfl (pc0 := 111) (pc' := 118) rfl (hb hby at_111) rfl ((if0 _ _).trans (teq hd118).1) (by decide) (by decide) ?_
            show Steps p.tables e below (T93.setTop (mkF m 118 #[.val (.int p1), .val (.int p2), .val (.int p3), .val (.int p4), .val (.int (1 : Int32)), .val (.int z89), .val (.ref b91), .val (.ref b91), .val (.ref b94), .val (.ref b91), .val (.int z115), .val (.int z117), .unset, .unset, .unset, .unset] [])) _
            refine XS.iconst X93.here hx rfl (hb hby at_118) ?_
            show Steps p.tables e below (T93.setTop (mkF m 119 #[.val (.int p1), .val (.int p2), .val (.int p3), .val (.int p4), .val (.int (1 : Int32)), .val (.int z89), .val (.ref b91), .val (.ref b91), .val (.ref b94), .val (.ref b91), .val (.int z115), .val (.int z117), .unset, .unset, .unset, .unset] [(.int (0 : Int32))])) _
            exact k
          · skip
            rw [(if_neg hd118 : (if (p4 &&& (4 : Int32)) = (0 : Int32) then (0 : Int32) else (1 : Int32)) = (1 : Int32))] at k
            show Steps p.tables e below (T93.setTop (mkF m 111 #[.val (.int p1), .val (.int p2), .val (.int p3), .val (.int p4), .val (.int (1 : Int32)), .val (.int z89), .val (.ref b91), .val (.ref b91), .val (.ref b94), .val (.ref b91), .val (.int z115), .val (.int z117), .unset, .unset, .unset, .unset] [(.int (p4 &&& (4 : Int32)))])) _
            refine XS.ifNo X93.here hx rfl (hb hby at_111) rfl ((if0 _ _).trans (feq hd118).1) ?_
            show Steps p.tables e below (T93.setTop (mkF m 114 #[.val (.int p1), .val (.int p2), .val (.int p3), .val (.int p4), .val (.int (1 : Int32)), .val (.int z89), .val (.ref b91), .val (.ref b91), .val (.ref b94), .val (.ref b91), .val (.int z115), .val (.int z117), .unset, .unset, .unset, .unset] [])) _
            refine XS.iconst X93.here hx rfl (hb hby at_114) ?_
            show Steps p.tables e below (T93.setTop (mkF m 115 #[.val (.int p1), .val (.int p2), .val (.int p3), .val (.int p4), .val (.int (1 : Int32)), .val (.int z89), .val (.ref b91), .val (.ref b91), .val (.ref b94), .val (.ref b91), .val (.int z115), .val (.int z117), .unset, .unset, .unset, .unset] [(.int (1 : Int32))])) _
            refine XS.goto X93.here hx rfl (pc0 := 115) (pc' := 119) rfl (hb hby at_115) (by decide) (by decide) ?_
            show Steps p.tables e below (T93.setTop (mkF m 119 #[.val (.int p1), .val (.int p2), .val (.int p3), .val (.int p4), .val (.int (1 : Int32)), .val (.int z89), .val (.ref b91), .val (.ref b91), .val (.ref b94), .val (.ref b91), .val (.int z115), .val (.int z117), .unset, .unset, .unset, .unset] [(.int (1 : Int32))])) _
            exact k
        show Go p.tables e below T93 (mkF m 119 #[.val (.int p1), .val (.int p2), .val (.int p3), .val (.int p4), .val (.int (1 : Int32)), .val (.int z89), .val (.ref b91), .val (.ref b91), .val (.ref b94), .val (.ref b91), .val (.int z115), .val (.int z117), .unset, .unset, .unset, .unset] [(.int (if (p4 &&& (4 : Int32)) = (0 : Int32) then (0 : Int32) else (1 : Int32)))]) _
        obtain ⟨z119, hz119⟩ : ∃ z : Int32, z = (if (p4 &&& (4 : Int32)) = (0 : Int32) then (0 : Int32) else (1 : Int32)) := ⟨_, rfl⟩
        rw [← hz119]
        show Go p.tables e below T93 (mkF m 119 #[.val (.int p1), .val (.int p2), .val (.int p3), .val (.int p4), .val (.int (1 : Int32)), .val (.int z89), .val (.ref b91), .val (.ref b91), .val (.ref b94), .val (.ref b91), .val (.int z115), .val (.int z117), .unset, .unset, .unset, .unset] [(.int z119)]) _
        refine go1 (fun _ => XS.istore X93.here hx rfl (hb hby at_119) rfl (l' := #[.val (.int p1), .val (.int p2), .val (.int p3), .val (.int p4), .val (.int (1 : Int32)), .val (.int z89), .val (.ref b91), .val (.ref b91), .val (.ref b94), .val (.ref b91), .val (.int z115), .val (.int z117), .val (.int z119), .unset, .unset, .unset]) rfl) ?_
        show Go p.tables e below T93 (mkF m 121 #[.val (.int p1), .val (.int p2), .val (.int p3), .val (.int p4), .val (.int (1 : Int32)), .val (.int z89), .val (.ref b91), .val (.ref b91), .val (.ref b94), .val (.ref b91), .val (.int z115), .val (.int z117), .val (.int z119), .unset, .unset, .unset] []) _
        refine go1 (fun _ => XS.iload X93.here hx rfl (hb hby at_121) rfl) ?_
        show Go p.tables e below T93 (mkF m 123 #[.val (.int p1), .val (.int p2), .val (.int p3), .val (.int p4), .val (.int (1 : Int32)), .val (.int z89), .val (.ref b91), .val (.ref b91), .val (.ref b94), .val (.ref b91), .val (.int z115), .val (.int z117), .val (.int z119), .unset, .unset, .unset] [(.int (1 : Int32))]) _
        refine go1 (fun _ => XS.ifNo X93.here hx rfl (hb hby at_123) rfl ((if0 _ _).trans (feq (by decide : ¬ ((1 : Int32) = (0 : Int32)))).1)) ?_
        show Go p.tables e below T93 (mkF m 126 #[.val (.int p1), .val (.int p2), .val (.int p3), .val (.int p4), .val (.int (1 : Int32)), .val (.int z89), .val (.ref b91), .val (.ref b91), .val (.ref b94), .val (.ref b91), .val (.int z115), .val (.int z117), .val (.int z119), .unset, .unset, .unset] []) _
        refine go1 (fun _ => XS.aload X93.here hx rfl (hb hby at_126) rfl rfl) ?_
        show Go p.tables e below T93 (mkF m 128 #[.val (.int p1), .val (.int p2), .val (.int p3), .val (.int p4), .val (.int (1 : Int32)), .val (.int z89), .val (.ref b91), .val (.ref b91), .val (.ref b94), .val (.ref b91), .val (.int z115), .val (.int z117), .val (.int z119), .unset, .unset, .unset] [(.ref b91)]) _
        refine go1 (fun _ => XS.goto X93.here hx rfl (pc0 := 128) (pc' := 132) rfl (hb hby at_128) (by decide) (by decide)) ?_
        show Go p.tables e below T93 (mkF m 132 #[.val (.int p1), .val (.int p2), .val (.int p3), .val (.int p4), .val (.int (1 : Int32)), .val (.int z89), .val (.ref b91), .val (.ref b91), .val (.ref b94), .val (.ref b91), .val (.int z115), .val (.int z117), .val (.int z119), .unset, .unset, .unset] [(.ref b91)]) _
        refine go1 (fun _ => XS.astore X93.here hx rfl (hb hby at_132) rfl rfl (l' := #[.val (.int p1), .val (.int p2), .val (.int p3), .val (.int p4), .val (.int (1 : Int32)), .val (.int z89), .val (.ref b91), .val (.ref b91), .val (.ref b94), .val (.ref b91), .val (.int z115), .val (.int z117), .val (.int z119), .val (.ref b91), .unset, .unset]) rfl) ?_
        show Go p.tables e below T93 (mkF m 134 #[.val (.int p1), .val (.int p2), .val (.int p3), .val (.int p4), .val (.int (1 : Int32)), .val (.int z89), .val (.ref b91), .val (.ref b91), .val (.ref b94), .val (.ref b91), .val (.int z115), .val (.int z117), .val (.int z119), .val (.ref b91), .unset, .unset] []) _
        obtain ⟨T120, h120, X120, e120, E120, A120, D120, -, st120⟩ := newO X93 hx hZ93 hown93 (hw _ (List.mem_of_getElem? (i := 12) rfl)) (hw _ (List.mem_of_getElem? (i := 13) rfl)) (hw _ (List.mem_of_getElem? (i := 14) rfl)) rfl (g := (mkF m 134 #[.val (.int p1), .val (.int p2), .val (.int p3), .val (.int p4), .val (.int (1 : Int32)), .val (.int z89), .val (.ref b91), .val (.ref b91), .val (.ref b94), .val (.ref b91), .val (.int z115), .val (.int z117), .val (.int z119), .val (.ref b91), .unset, .unset] [])) rfl (hb hby at_134) (by decide) (by decide)
        obtain ⟨b120, g120⟩ : ∃ z, z = T93.heap.size := ⟨_, rfl⟩
        rw [← g120] at A120 D120 st120
        have g_b120 : n0 ≤ b120 := Nat.le_trans (Nat.le_trans (Nat.le_trans Z0 K90.1) K93.1) (Nat.le_of_eq g120.symm)
        have F_name_b120 : Fld Z h120 b120 "com/example/enrout/enrout/broker/cli/Option" "name" "Ljava/lang/String;" .null := D120 (Or.inr (hw _ (List.mem_of_getElem? (i := 27) rfl))) (ty := (.object "java/lang/String")) (by decide)
        have F_value_b120 : Fld Z h120 b120 "com/example/enrout/enrout/broker/cli/Option" "value" "Ljava/lang/String;" .null := D120 (Or.inr (hw _ (List.mem_of_getElem? (i := 29) rfl))) (ty := (.object "java/lang/String")) (by decide)
        have F_help_b120 : Fld Z h120 b120 "com/example/enrout/enrout/broker/cli/Option" "help" "Ljava/lang/String;" .null := D120 (Or.inr (hw _ (List.mem_of_getElem? (i := 31) rfl))) (ty := (.object "java/lang/String")) (by decide)
        have F_defaultValue_b120 : Fld Z h120 b120 "com/example/enrout/enrout/broker/cli/Option" "defaultValue" "Ljava/lang/String;" .null := D120 (Or.inr (hw _ (List.mem_of_getElem? (i := 33) rfl))) (ty := (.object "java/lang/String")) (by decide)
        have F_required_b120 : Fld Z h120 b120 "com/example/enrout/enrout/broker/cli/Option" "required" "Z" (.int (0 : Int32)) := D120 (Or.inr (hw _ (List.mem_of_getElem? (i := 35) rfl))) (ty := .boolean) (by decide)
        have F_repeatable_b120 : Fld Z h120 b120 "com/example/enrout/enrout/broker/cli/Option" "repeatable" "Z" (.int (0 : Int32)) := D120 (Or.inr (hw _ (List.mem_of_getElem? (i := 37) rfl))) (ty := .boolean) (by decide)
        have F_several_b120 : Fld Z h120 b120 "com/example/enrout/enrout/broker/cli/Option" "several" "Z" (.int (0 : Int32)) := D120 (Or.inr (hw _ (List.mem_of_getElem? (i := 39) rfl))) (ty := .boolean) (by decide)
        refine go1 st120 ?_
        show Go p.tables e below T120 (mkF m 137 #[.val (.int p1), .val (.int p2), .val (.int p3), .val (.int p4), .val (.int (1 : Int32)), .val (.int z89), .val (.ref b91), .val (.ref b91), .val (.ref b94), .val (.ref b91), .val (.int z115), .val (.int z117), .val (.int z119), .val (.ref b91), .unset, .unset] [(.ref b120)]) _
        refine go1 (fun _ => XS.dup X120.here hx rfl (hb hby at_137) rfl rfl) ?_
        show Go p.tables e below T120 (mkF m 138 #[.val (.int p1), .val (.int p2), .val (.int p3), .val (.int p4), .val (.int (1 : Int32)), .val (.int z89), .val (.ref b91), .val (.ref b91), .val (.ref b94), .val (.ref b91), .val (.int z115), .val (.int z117), .val (.int z119), .val (.ref b91), .unset, .unset] [(.ref b120), (.ref b120)]) _
        refine go1 (fun _ => XS.aload X120.here hx rfl (hb hby at_138) rfl rfl) ?_
        show Go p.tables e below T120 (mkF m 140 #[.val (.int p1), .val (.int p2), .val (.int p3), .val (.int p4), .val (.int (1 : Int32)), .val (.int z89), .val (.ref b91), .val (.ref b91), .val (.ref b94), .val (.ref b91), .val (.int z115), .val (.int z117), .val (.int z119), .val (.ref b91), .unset, .unset] [(.ref b91), (.ref b120), (.ref b120)]) _
        refine go1 (fun _ => XS.aload X120.here hx rfl (hb hby at_140) rfl rfl) ?_
        show Go p.tables e below T120 (mkF m 142 #[.val (.int p1), .val (.int p2), .val (.int p3), .val (.int p4), .val (.int (1 : Int32)), .val (.int z89), .val (.ref b91), .val (.ref b91), .val (.ref b94), .val (.ref b91), .val (.int z115), .val (.int z117), .val (.int z119), .val (.ref b91), .unset, .unset] [(.ref b91), (.ref b91), (.ref b120), (.ref b120)]) _
        refine go1 (fun _ => XS.aload X120.here hx rfl (hb hby at_142) rfl rfl) ?_
        show Go p.tables e below T120 (mkF m 144 #[.val (.int p1), .val (.int p2), .val (.int p3), .val (.int p4), .val (.int (1 : Int32)), .val (.int z89), .val (.ref b91), .val (.ref b91), .val (.ref b94), .val (.ref b91), .val (.int z115), .val (.int z117), .val (.int z119), .val (.ref b91), .unset, .unset] [(.ref b94), (.ref b91), (.ref b91), (.ref b120), (.ref b120)]) _
        refine go1 (fun _ => XS.aload X120.here hx rfl (hb hby at_144) rfl rfl) ?_
        show Go p.tables e below T120 (mkF m 146 #[.val (.int p1), .val (.int p2), .val (.int p3), .val (.int p4), .val (.int (1 : Int32)), .val (.int z89), .val (.ref b91), .val (.ref b91), .val (.ref b94), .val (.ref b91), .val (.int z115), .val (.int z117), .val (.int z119), .val (.ref b91), .unset, .unset] [(.ref b91), (.ref b94), (.ref b91), (.ref b91), (.ref b120), (.ref b120)]) _
        refine go1 (fun _ => XS.iload X120.here hx rfl (hb hby at_146) rfl) ?_
        show Go p.tables e below T120 (mkF m 148 #[.val (.int p1), .val (.int p2), .val (.int p3), .val (.int p4), .val (.int (1 : Int32)), .val (.int z89), .val (.ref b91), .val (.ref b91), .val (.ref b94), .val (.ref b91), .val (.int z115), .val (.int z117), .val (.int z119), .val (.ref b91), .unset, .unset] [(.int z115), (.ref b91), (.ref b94), (.ref b91), (.ref b91), (.ref b120), (.ref b120)]) _
        refine go1 (fun _ => XS.iload X120.here hx rfl (hb hby at_148) rfl) ?_
        show Go p.tables e below T120 (mkF m 150 #[.val (.int p1), .val (.int p2), .val (.int p3), .val (.int p4), .val (.int (1 : Int32)), .val (.int z89), .val (.ref b91), .val (.ref b91), .val (.ref b94), .val (.ref b91), .val (.int z115), .val (.int z117), .val (.int z119), .val (.ref b91), .unset, .unset] [(.int z117), (.int z115), (.ref b91), (.ref b94), (.ref b91), (.ref b91), (.ref b120), (.ref b120)]) _
        refine go1 (fun _ => XS.iload X120.here hx rfl (hb hby at_150) rfl) ?_
        show Go p.tables e below T120 (mkF m 152 #[.val (.int p1), .val (.int p2), .val (.int p3), .val (.int p4), .val (.int (1 : Int32)), .val (.int z89), .val (.ref b91), .val (.ref b91), .val (.ref b94), .val (.ref b91), .val (.int z115), .val (.int z117), .val (.int z119), .val (.ref b91), .unset, .unset] [(.int z119), (.int z117), (.int z115), (.ref b91), (.ref b94), (.ref b91), (.ref b91), (.ref b120), (.ref b120)]) _
        obtain ⟨_, _, ⟨T121, L121, k121, n121⟩, -, X121, ⟨Lc121, hQ121, l121, y121, z121⟩, st121⟩ := X120.specialBack hx (y := (⟨"com/example/enrout/enrout/broker/cli/Option", "<init>", "(Ljava/lang/String;Ljava/lang/String;Ljava/lang/String;Ljava/lang/String;ZZZ)V"⟩ : MethodName)) rfl hown93 (mvT hZ93 (hw _ (List.mem_of_getElem? (i := 15) rfl))) (mvT hZ93 (hw _ (List.mem_of_getElem? (i := 16) rfl))) (mvT hZ93 (hw _ (List.mem_of_getElem? (i := 17) rfl))) (by decide) (backOf (W := 1) (rm2 l Z a0 hw [] b120 (.ref b91) (.ref b91) (.ref b94) (.ref b91) z115 z117 z119 h120 n0 (Nat.le_trans (Nat.le_trans (Nat.le_trans Z0 K90.1) K93.1) E120.1) F_name_b120 F_value_b120 F_help_b120 F_defaultValue_b120 F_required_b120 F_repeatable_b120 F_several_b120 A120 g_b120 (by first | assumption | decide | rfl) (by first | assumption | decide | rfl) (by first | assumption | decide | rfl) (by first | assumption | decide | rfl)) hZ93 (hw _ (List.mem_of_getElem? (i := 17) rfl)) (hw _ (List.mem_of_getElem? (i := 14) rfl)) (by decide) (by decide)) (g := (mkF m 152 #[.val (.int p1), .val (.int p2), .val (.int p3), .val (.int p4), .val (.int (1 : Int32)), .val (.int z89), .val (.ref b91), .val (.ref b91), .val (.ref b94), .val (.ref b91), .val (.int z115), .val (.int z117), .val (.int z119), .val (.ref b91), .unset, .unset] [(.int z119), (.int z117), (.int z115), (.ref b91), (.ref b94), (.ref b91), (.ref b91), (.ref b120), (.ref b120)])) rfl (by rw [hml]; rfl) (Steps.refl _) (a := b120) (argsL := [(.ref b91), (.ref b91), (.ref b94), (.ref b91), (.int z115), (.int z117), (.int z119)]) (rest := [(.ref b120)]) (lenOf pd0_1 rfl) rfl (by show 2 * 0 + _ ≤ _; exact Nat.le_of_eq rfl) (hb hby at_152) (fun _ _ => ⟨rfl, e120, (by decide : 7 + 0 ≤ _), (by decide : 23 + 0 ≤ _)⟩)
        dsimp only [Pt.U, Pt.locs, Pt.cells, Pt.slots] at X121 l121 y121 z121 st121 hQ121
        subst l121 y121 z121
        obtain ⟨rfl, N121q, K121, G121_0, G121_1⟩ := hQ121
        have N121 := Fr.app N93 N121q
        refine goT st121 ?_
        show Go p.tables e below T121 (mkF m 155 #[.val (.int p1), .val (.int p2), .val (.int p3), .val (.int p4), .val (.int (1 : Int32)), .val (.int z89), .val (.ref b91), .val (.ref b91), .val (.ref b94), .val (.ref b91), .val (.int z115), .val (.int z117), .val (.int z119), .val (.ref b91), .unset, .unset] [(.ref b120)]) _
        refine go1 (fun _ => XS.astore X121.here hx rfl (hb hby at_155) rfl rfl (l' := #[.val (.int p1), .val (.int p2), .val (.int p3), .val (.int p4), .val (.int (1 : Int32)), .val (.int z89), .val (.ref b91), .val (.ref b91), .val (.ref b94), .val (.ref b91), .val (.int z115), .val (.int z117), .val (.int z119), .val (.ref b91), .val (.ref b120), .unset]) rfl) ?_
        show Go p.tables e below T121 (mkF m 157 #[.val (.int p1), .val (.int p2), .val (.int p3), .val (.int p4), .val (.int (1 : Int32)), .val (.int z89), .val (.ref b91), .val (.ref b91), .val (.ref b94), .val (.ref b91), .val (.int z115), .val (.int z117), .val (.int z119), .val (.ref b91), .val (.ref b120), .unset] []) _
        refine go1 (fun _ => XS.aload X121.here hx rfl (hb hby at_157) rfl rfl) ?_
        show Go p.tables e below T121 (mkF m 159 #[.val (.int p1), .val (.int p2), .val (.int p3), .val (.int p4), .val (.int (1 : Int32)), .val (.int z89), .val (.ref b91), .val (.ref b91), .val (.ref b94), .val (.ref b91), .val (.int z115), .val (.int z117), .val (.int z119), .val (.ref b91), .val (.ref b120), .unset] [(.ref b120)]) _
        obtain ⟨cq122, kq122, q122a, q122b, q122c⟩ := isOf hZ93 rfl G121_0
        obtain ⟨_, _, ⟨T122, L122, k122, n122⟩, -, X122, ⟨Lc122, hQ122, l122, y122, z122⟩, st122⟩ := X121.virtualBack hx (y := (⟨"com/example/enrout/enrout/broker/cli/Option", "isFlag", "()Z"⟩ : MethodName)) (z := (⟨"com/example/enrout/enrout/broker/cli/Option", "isFlag", "()Z"⟩ : MethodName)) hown93 (mvT hZ93 (hw _ (List.mem_of_getElem? (i := 40) rfl))) (mvT hZ93 (hw _ (List.mem_of_getElem? (i := 41) rfl))) (notFace_of_selects (args := #[]) (mvT hZ93 (hw _ (List.mem_of_getElem? (i := 43) rfl)))) (mvT hZ93 (hw _ (List.mem_of_getElem? (i := 43) rfl))) (mvT hZ93 (hw _ (List.mem_of_getElem? (i := 42) rfl))) (by decide) (backOf (W := 0) (rmisb l Z a0 hw [] b120 b91 T121.heap n0 (Nat.le_trans (Nat.le_trans (Nat.le_trans (Nat.le_trans Z0 K90.1) K93.1) E120.1) K121.1) G121_1) hZ93 (hw _ (List.mem_of_getElem? (i := 44) rfl)) (hw _ (List.mem_of_getElem? (i := 14) rfl)) (by decide) (by decide)) q122a q122c (g := (mkF m 159 #[.val (.int p1), .val (.int p2), .val (.int p3), .val (.int p4), .val (.int (1 : Int32)), .val (.int z89), .val (.ref b91), .val (.ref b91), .val (.ref b94), .val (.ref b91), .val (.int z115), .val (.int z117), .val (.int z119), .val (.ref b91), .val (.ref b120), .unset] [(.ref b120)])) rfl (by rw [hml]; rfl) (Steps.refl _) (argsL := []) (rest := []) (lenOf pd0_2 rfl) rfl (by show 2 * 0 + _ ≤ _; exact Nat.le_of_eq rfl) (hb hby at_159) (fun _ _ => ⟨rfl, rfl, (by decide : 7 + 0 ≤ _), (by decide : 23 + 0 ≤ _)⟩)
        dsimp only [Pt.U, Pt.locs, Pt.cells, Pt.slots] at X122 l122 y122 z122 st122 hQ122
        subst l122 y122 z122
        obtain ⟨rfl, N122q, e122⟩ := hQ122
        have N122 := Fr.app N121 N122q
        refine goT st122 ?_
        show Go p.tables e below T122 (mkF m 162 #[.val (.int p1), .val (.int p2), .val (.int p3), .val (.int p4), .val (.int (1 : Int32)), .val (.int z89), .val (.ref b91), .val (.ref b91), .val (.ref b94), .val (.ref b91), .val (.int z115), .val (.int z117), .val (.int z119), .val (.ref b91), .val (.ref b120), .unset] [(.int (0 : Int32))]) _
        refine go1 (fun _ => XS.iload X122.here hx rfl (hb hby at_162) rfl) ?_
        show Go p.tables e below T122 (mkF m 164 #[.val (.int p1), .val (.int p2), .val (.int p3), .val (.int p4), .val (.int (1 : Int32)), .val (.int z89), .val (.ref b91), .val (.ref b91), .val (.ref b94), .val (.ref b91), .val (.int z115), .val (.int z117), .val (.int z119), .val (.ref b91), .val (.ref b120), .unset] [(.int (1 : Int32)), (.int (0 : Int32))]) _
        refine go1 (fun _ => XS.ifYes X122.here hx rfl (pc0 := 164) (pc' := 171) rfl (hb hby at_164) rfl ((if0 _ _).trans (feq (by decide : ¬ ((1 : Int32) = (0 : Int32)))).2) (by decide) (by decide)) ?_
        show Go p.tables e below T122 (mkF m 171 #[.val (.int p1), .val (.int p2), .val (.int p3), .val (.int p4), .val (.int (1 : Int32)), .val (.int z89), .val (.ref b91), .val (.ref b91), .val (.ref b94), .val (.ref b91), .val (.int z115), .val (.int z117), .val (.int z119), .val (.ref b91), .val (.ref b120), .unset] [(.int (0 : Int32))]) _
        refine go1 (fun _ => XS.iconst X122.here hx rfl (hb hby at_171)) ?_
        show Go p.tables e below T122 (mkF m 172 #[.val (.int p1), .val (.int p2), .val (.int p3), .val (.int p4), .val (.int (1 : Int32)), .val (.int z89), .val (.ref b91), .val (.ref b91), .val (.ref b94), .val (.ref b91), .val (.int z115), .val (.int z117), .val (.int z119), .val (.ref b91), .val (.ref b120), .unset] [(.int (0 : Int32)), (.int (0 : Int32))]) _
        refine go1 (fun _ => XS.icmpNo X122.here hx rfl (hb hby at_172) rfl (teq (by decide : (0 : Int32) = (0 : Int32))).2) ?_
        show Go p.tables e below T122 (mkF m 175 #[.val (.int p1), .val (.int p2), .val (.int p3), .val (.int p4), .val (.int (1 : Int32)), .val (.int z89), .val (.ref b91), .val (.ref b91), .val (.ref b94), .val (.ref b91), .val (.int z115), .val (.int z117), .val (.int z119), .val (.ref b91), .val (.ref b120), .unset] []) _
        refine go1 (fun _ => XS.iconst X122.here hx rfl (hb hby at_175)) ?_
        show Go p.tables e below T122 (mkF m 176 #[.val (.int p1), .val (.int p2), .val (.int p3), .val (.int p4), .val (.int (1 : Int32)), .val (.int z89), .val (.ref b91), .val (.ref b91), .val (.ref b94), .val (.ref b91), .val (.int z115), .val (.int z117), .val (.int z119), .val (.ref b91), .val (.ref b120), .unset] [(.int (1 : Int32))]) _
        refine go1 (fun _ => XS.goto X122.here hx rfl (pc0 := 176) (pc' := 180) rfl (hb hby at_176) (by decide) (by decide)) ?_
        show Go p.tables e below T122 (mkF m 180 #[.val (.int p1), .val (.int p2), .val (.int p3), .val (.int p4), .val (.int (1 : Int32)), .val (.int z89), .val (.ref b91), .val (.ref b91), .val (.ref b94), .val (.ref b91), .val (.int z115), .val (.int z117), .val (.int z119), .val (.ref b91), .val (.ref b120), .unset] [(.int (1 : Int32))]) _
        refine go1 (fun _ => XS.istore X122.here hx rfl (hb hby at_180) rfl (l' := #[.val (.int p1), .val (.int p2), .val (.int p3), .val (.int p4), .val (.int (1 : Int32)), .val (.int z89), .val (.ref b91), .val (.ref b91), .val (.ref b94), .val (.ref b91), .val (.int z115), .val (.int z117), .val (.int z119), .val (.ref b91), .val (.ref b120), .val (.int (1 : Int32))]) rfl) ?_
        show Go p.tables e below T122 (mkF m 182 #[.val (.int p1), .val (.int p2), .val (.int p3), .val (.int p4), .val (.int (1 : Int32)), .val (.int z89), .val (.ref b91), .val (.ref b91), .val (.ref b94), .val (.ref b91), .val (.int z115), .val (.int z117), .val (.int z119), .val (.ref b91), .val (.ref b120), .val (.int (1 : Int32))] []) _
        refine go1 (fun _ => XS.iload X122.here hx rfl (hb hby at_182) rfl) ?_
        show Go p.tables e below T122 (mkF m 184 #[.val (.int p1), .val (.int p2), .val (.int p3), .val (.int p4), .val (.int (1 : Int32)), .val (.int z89), .val (.ref b91), .val (.ref b91), .val (.ref b94), .val (.ref b91), .val (.int z115), .val (.int z117), .val (.int z119), .val (.ref b91), .val (.ref b120), .val (.int (1 : Int32))] [(.int (1 : Int32))]) _
        refine go1 (fun _ => XS.ifNo X122.here hx rfl (hb hby at_184) rfl ((if0 _ _).trans (feq (by decide : ¬ ((1 : Int32) = (0 : Int32)))).1)) ?_
        show Go p.tables e below T122 (mkF m 187 #[.val (.int p1), .val (.int p2), .val (.int p3), .val (.int p4), .val (.int (1 : Int32)), .val (.int z89), .val (.ref b91), .val (.ref b91), .val (.ref b94), .val (.ref b91), .val (.int z115), .val (.int z117), .val (.int z119), .val (.ref b91), .val (.ref b120), .val (.int (1 : Int32))] []) _
        refine go1 (fun _ => XS.aload X122.here hx rfl (hb hby at_187) rfl rfl) ?_
        show Go p.tables e below T122 (mkF m 189 #[.val (.int p1), .val (.int p2), .val (.int p3), .val (.int p4), .val (.int (1 : Int32)), .val (.int z89), .val (.ref b91), .val (.ref b91), .val (.ref b94), .val (.ref b91), .val (.int z115), .val (.int z117), .val (.int z119), .val (.ref b91), .val (.ref b120), .val (.int (1 : Int32))] [(.ref b91)]) _
        refine go1 (fun _ => XS.aload X122.here hx rfl (hb hby at_189) rfl rfl) ?_
        show Go p.tables e below T122 (mkF m 191 #[.val (.int p1), .val (.int p2), .val (.int p3), .val (.int p4), .val (.int (1 : Int32)), .val (.int z89), .val (.ref b91), .val (.ref b91), .val (.ref b94), .val (.ref b91), .val (.int z115), .val (.int z117), .val (.int z119), .val (.ref b91), .val (.ref b120), .val (.int (1 : Int32))] [(.ref b94), (.ref b91)]) _
        obtain ⟨_, _, ⟨T123, L123, k123, n123⟩, -, X123, ⟨Lc123, hQ123, l123, y123, z123⟩, st123⟩ := Jvm.LawKit.callS X122 hx (y := (⟨"com/example/enrout/enrout/broker/cli/Option", "flag", "(Ljava/lang/String;Ljava/lang/String;)Lcom/example/enrout/enrout/broker/cli/Option;"⟩ : MethodName)) hown93 (mvT hZ93 (hw _ (List.mem_of_getElem? (i := 45) rfl))) (mvT hZ93 (hw _ (List.mem_of_getElem? (i := 46) rfl))) (mvT hZ93 (hw _ (List.mem_of_getElem? (i := 14) rfl))) (mvT hZ93 (hw _ (List.mem_of_getElem? (i := 47) rfl))) (by decide) (backOf (W := 0) (rm6 l Z a0 hw [] b91 b94 T121.heap n0 (Nat.le_trans (Nat.le_trans (Nat.le_trans (Nat.le_trans Z0 K90.1) K93.1) E120.1) K121.1) ) hZ93 (hw _ (List.mem_of_getElem? (i := 47) rfl)) (hw _ (List.mem_of_getElem? (i := 14) rfl)) (by decide) (by decide)) (g := (mkF m 191 #[.val (.int p1), .val (.int p2), .val (.int p3), .val (.int p4), .val (.int (1 : Int32)), .val (.int z89), .val (.ref b91), .val (.ref b91), .val (.ref b94), .val (.ref b91), .val (.int z115), .val (.int z117), .val (.int z119), .val (.ref b91), .val (.ref b120), .val (.int (1 : Int32))] [(.ref b94), (.ref b91)])) rfl (by rw [hml]; rfl) (argsL := [(.ref b91), (.ref b94)]) (rest := []) (lenOf pd0_3 rfl) rfl (by show 2 * 0 + _ ≤ _; exact Nat.le_of_eq rfl) (hb hby at_191) (fun _ _ => ⟨rfl, e122, (by decide : 7 + 1 ≤ _), (by decide : 23 + 7 ≤ _)⟩)
        dsimp only [Pt.U, Pt.locs, Pt.cells, Pt.slots] at X123 l123 y123 z123 st123 hQ123
        subst l123 y123 z123
        obtain ⟨b124, rfl, N123q, K123, G123_0, G123_1⟩ := hQ123
        have N123 := Fr.app N122 N123q
        refine go1 st123 ?_
        show Go p.tables e below T123 (mkF m 194 #[.val (.int p1), .val (.int p2), .val (.int p3), .val (.int p4), .val (.int (1 : Int32)), .val (.int z89), .val (.ref b91), .val (.ref b91), .val (.ref b94), .val (.ref b91), .val (.int z115), .val (.int z117), .val (.int z119), .val (.ref b91), .val (.ref b120), .val (.int (1 : Int32))] [(.ref b124)]) _
        obtain ⟨cq125, kq125, q125a, q125b, q125c⟩ := isOf hZ93 rfl G123_0
        obtain ⟨_, _, ⟨T125, L125, k125, n125⟩, -, X125, ⟨Lc125, hQ125, l125, y125, z125⟩, st125⟩ := X123.virtualBack hx (y := (⟨"com/example/enrout/enrout/broker/cli/Option", "isFlag", "()Z"⟩ : MethodName)) (z := (⟨"com/example/enrout/enrout/broker/cli/Option", "isFlag", "()Z"⟩ : MethodName)) hown93 (mvT hZ93 (hw _ (List.mem_of_getElem? (i := 40) rfl))) (mvT hZ93 (hw _ (List.mem_of_getElem? (i := 41) rfl))) (notFace_of_selects (args := #[]) (mvT hZ93 (hw _ (List.mem_of_getElem? (i := 43) rfl)))) (mvT hZ93 (hw _ (List.mem_of_getElem? (i := 43) rfl))) (mvT hZ93 (hw _ (List.mem_of_getElem? (i := 42) rfl))) (by decide) (backOf (W := 0) (rmisa l Z a0 hw [] b124 T123.heap n0 (Nat.le_trans (Nat.le_trans (Nat.le_trans (Nat.le_trans (Nat.le_trans Z0 K90.1) K93.1) E120.1) K121.1) K123.1) G123_1) hZ93 (hw _ (List.mem_of_getElem? (i := 44) rfl)) (hw _ (List.mem_of_getElem? (i := 14) rfl)) (by decide) (by decide)) q125a q125c (g := (mkF m 194 #[.val (.int p1), .val (.int p2), .val (.int p3), .val (.int p4), .val (.int (1 : Int32)), .val (.int z89), .val (.ref b91), .val (.ref b91), .val (.ref b94), .val (.ref b91), .val (.int z115), .val (.int z117), .val (.int z119), .val (.ref b91), .val (.ref b120), .val (.int (1 : Int32))] [(.ref b124)])) rfl (by rw [hml]; rfl) (Steps.refl _) (argsL := []) (rest := []) (lenOf pd0_2 rfl) rfl (by show 2 * 0 + _ ≤ _; exact Nat.le_of_eq rfl) (hb hby at_194) (fun _ _ => ⟨rfl, rfl, (by decide : 8 + 0 ≤ _), (by decide : 30 + 0 ≤ _)⟩)
        dsimp only [Pt.U, Pt.locs, Pt.cells, Pt.slots] at X125 l125 y125 z125 st125 hQ125
        subst l125 y125 z125
        obtain ⟨rfl, N125q, e125⟩ := hQ125
        have N125 := Fr.app N123 N125q
        refine goT st125 ?_
        show Go p.tables e below T125 (mkF m 197 #[.val (.int p1), .val (.int p2), .val (.int p3), .val (.int p4), .val (.int (1 : Int32)), .val (.int z89), .val (.ref b91), .val (.ref b91), .val (.ref b94), .val (.ref b91), .val (.int z115), .val (.int z117), .val (.int z119), .val (.ref b91), .val (.ref b120), .val (.int (1 : Int32))] [(.int (1 : Int32))]) _
        refine go1 (fun _ => XS.ifNo X125.here hx rfl (hb hby at_197) rfl ((if0 _ _).trans (feq (by decide : ¬ ((1 : Int32) = (0 : Int32)))).1)) ?_
        show Go p.tables e below T125 (mkF m 200 #[.val (.int p1), .val (.int p2), .val (.int p3), .val (.int p4), .val (.int (1 : Int32)), .val (.int z89), .val (.ref b91), .val (.ref b91), .val (.ref b94), .val (.ref b91), .val (.int z115), .val (.int z117), .val (.int z119), .val (.ref b91), .val (.ref b120), .val (.int (1 : Int32))] []) _
        refine go1 (fun _ => XS.iconst X125.here hx rfl (hb hby at_200)) ?_
        show Go p.tables e below T125 (mkF m 201 #[.val (.int p1), .val (.int p2), .val (.int p3), .val (.int p4), .val (.int (1 : Int32)), .val (.int z89), .val (.ref b91), .val (.ref b91), .val (.ref b94), .val (.ref b91), .val (.int z115), .val (.int z117), .val (.int z119), .val (.ref b91), .val (.ref b120), .val (.int (1 : Int32))] [(.int (1 : Int32))]) _
        refine go1 (fun _ => XS.goto X125.here hx rfl (pc0 := 201) (pc' := 205) rfl (hb hby at_201) (by decide) (by decide)) ?_
        show Go p.tables e below T125 (mkF m 205 #[.val (.int p1), .val (.int p2), .val (.int p3), .val (.int p4), .val (.int (1 : Int32)), .val (.int z89), .val (.ref b91), .val (.ref b91), .val (.ref b94), .val (.ref b91), .val (.int z115), .val (.int z117), .val (.int z119), .val (.ref b91), .val (.ref b120), .val (.int (1 : Int32))] [(.int (1 : Int32))]) _
        refine go1 (fun _ => XS.istore X125.here hx rfl (hb hby at_205) rfl (l' := #[.val (.int p1), .val (.int p2), .val (.int p3), .val (.int p4), .val (.int (1 : Int32)), .val (.int z89), .val (.ref b91), .val (.ref b91), .val (.ref b94), .val (.ref b91), .val (.int z115), .val (.int z117), .val (.int z119), .val (.ref b91), .val (.ref b120), .val (.int (1 : Int32))]) rfl) ?_
        show Go p.tables e below T125 (mkF m 207 #[.val (.int p1), .val (.int p2), .val (.int p3), .val (.int p4), .val (.int (1 : Int32)), .val (.int z89), .val (.ref b91), .val (.ref b91), .val (.ref b94), .val (.ref b91), .val (.int z115), .val (.int z117), .val (.int z119), .val (.ref b91), .val (.ref b120), .val (.int (1 : Int32))] []) _
        refine go1 (fun _ => XS.iload X125.here hx rfl (hb hby at_207) rfl) ?_
        show Go p.tables e below T125 (mkF m 209 #[.val (.int p1), .val (.int p2), .val (.int p3), .val (.int p4), .val (.int (1 : Int32)), .val (.int z89), .val (.ref b91), .val (.ref b91), .val (.ref b94), .val (.ref b91), .val (.int z115), .val (.int z117), .val (.int z119), .val (.ref b91), .val (.ref b120), .val (.int (1 : Int32))] [(.int (1 : Int32))]) _
        refine go1 (fun _ => XS.ifNo X125.here hx rfl (hb hby at_209) rfl ((if0 _ _).trans (feq (by decide : ¬ ((1 : Int32) = (0 : Int32)))).1)) ?_
        show Go p.tables e below T125 (mkF m 212 #[.val (.int p1), .val (.int p2), .val (.int p3), .val (.int p4), .val (.int (1 : Int32)), .val (.int z89), .val (.ref b91), .val (.ref b91), .val (.ref b94), .val (.ref b91), .val (.int z115), .val (.int z117), .val (.int z119), .val (.ref b91), .val (.ref b120), .val (.int (1 : Int32))] []) _
        refine go1 (fun _ => XS.aload X125.here hx rfl (hb hby at_212) rfl rfl) ?_
        show Go p.tables e below T125 (mkF m 214 #[.val (.int p1), .val (.int p2), .val (.int p3), .val (.int p4), .val (.int (1 : Int32)), .val (.int z89), .val (.ref b91), .val (.ref b91), .val (.ref b94), .val (.ref b91), .val (.int z115), .val (.int z117), .val (.int z119), .val (.ref b91), .val (.ref b120), .val (.int (1 : Int32))] [(.ref b91)]) _
        refine go1 (fun _ => XS.aload X125.here hx rfl (hb hby at_214) rfl rfl) ?_
        show Go p.tables e below T125 (mkF m 216 #[.val (.int p1), .val (.int p2), .val (.int p3), .val (.int p4), .val (.int (1 : Int32)), .val (.int z89), .val (.ref b91), .val (.ref b91), .val (.ref b94), .val (.ref b91), .val (.int z115), .val (.int z117), .val (.int z119), .val (.ref b91), .val (.ref b120), .val (.int (1 : Int32))] [(.ref b94), (.ref b91)]) _
        obtain ⟨_, _, ⟨T126, L126, k126, n126⟩, -, X126, ⟨Lc126, hQ126, l126, y126, z126⟩, st126⟩ := Jvm.LawKit.callS X125 hx (y := (⟨"com/example/enrout/enrout/broker/cli/Option", "operand", "(Ljava/lang/String;Ljava/lang/String;)Lcom/example/enrout/enrout/broker/cli/Option;"⟩ : MethodName)) hown93 (mvT hZ93 (hw _ (List.mem_of_getElem? (i := 50) rfl))) (mvT hZ93 (hw _ (List.mem_of_getElem? (i := 51) rfl))) (mvT hZ93 (hw _ (List.mem_of_getElem? (i := 14) rfl))) (mvT hZ93 (hw _ (List.mem_of_getElem? (i := 52) rfl))) (by decide) (backOf (W := 0) (rm7 l Z a0 hw [] b91 b94 T123.heap n0 (Nat.le_trans (Nat.le_trans (Nat.le_trans (Nat.le_trans (Nat.le_trans Z0 K90.1) K93.1) E120.1) K121.1) K123.1) ) hZ93 (hw _ (List.mem_of_getElem? (i := 52) rfl)) (hw _ (List.mem_of_getElem? (i := 14) rfl)) (by decide) (by decide)) (g := (mkF m 216 #[.val (.int p1), .val (.int p2), .val (.int p3), .val (.int p4), .val (.int (1 : Int32)), .val (.int z89), .val (.ref b91), .val (.ref b91), .val (.ref b94), .val (.ref b91), .val (.int z115), .val (.int z117), .val (.int z119), .val (.ref b91), .val (.ref b120), .val (.int (1 : Int32))] [(.ref b94), (.ref b91)])) rfl (by rw [hml]; rfl) (argsL := [(.ref b91), (.ref b94)]) (rest := []) (lenOf pd0_3 rfl) rfl (by show 2 * 0 + _ ≤ _; exact Nat.le_of_eq rfl) (hb hby at_216) (fun _ _ => ⟨rfl, e125, (by decide : 8 + 1 ≤ _), (by decide : 30 + 7 ≤ _)⟩)
        dsimp only [Pt.U, Pt.locs, Pt.cells, Pt.slots] at X126 l126 y126 z126 st126 hQ126
        subst l126 y126 z126
        obtain ⟨b127, rfl, N126q, K126, G126_0, G126_1⟩ := hQ126
        have N126 := Fr.app N125 N126q
        refine go1 st126 ?_
        show Go p.tables e below T126 (mkF m 219 #[.val (.int p1), .val (.int p2), .val (.int p3), .val (.int p4), .val (.int (1 : Int32)), .val (.int z89), .val (.ref b91), .val (.ref b91), .val (.ref b94), .val (.ref b91), .val (.int z115), .val (.int z117), .val (.int z119), .val (.ref b91), .val (.ref b120), .val (.int (1 : Int32))] [(.ref b127)]) _
        obtain ⟨cq128, kq128, q128a, q128b, q128c⟩ := isOf hZ93 rfl G126_0
        obtain ⟨_, _, ⟨T128, L128, k128, n128⟩, -, X128, ⟨Lc128, hQ128, l128, y128, z128⟩, st128⟩ := X126.virtualBack hx (y := (⟨"com/example/enrout/enrout/broker/cli/Option", "isFlag", "()Z"⟩ : MethodName)) (z := (⟨"com/example/enrout/enrout/broker/cli/Option", "isFlag", "()Z"⟩ : MethodName)) hown93 (mvT hZ93 (hw _ (List.mem_of_getElem? (i := 40) rfl))) (mvT hZ93 (hw _ (List.mem_of_getElem? (i := 41) rfl))) (notFace_of_selects (args := #[]) (mvT hZ93 (hw _ (List.mem_of_getElem? (i := 43) rfl)))) (mvT hZ93 (hw _ (List.mem_of_getElem? (i := 43) rfl))) (mvT hZ93 (hw _ (List.mem_of_getElem? (i := 42) rfl))) (by decide) (backOf (W := 0) (rmisb l Z a0 hw [] b127 b91 T126.heap n0 (Nat.le_trans (Nat.le_trans (Nat.le_trans (Nat.le_trans (Nat.le_trans (Nat.le_trans Z0 K90.1) K93.1) E120.1) K121.1) K123.1) K126.1) G126_1) hZ93 (hw _ (List.mem_of_getElem? (i := 44) rfl)) (hw _ (List.mem_of_getElem? (i := 14) rfl)) (by decide) (by decide)) q128a q128c (g := (mkF m 219 #[.val (.int p1), .val (.int p2), .val (.int p3), .val (.int p4), .val (.int (1 : Int32)), .val (.int z89), .val (.ref b91), .val (.ref b91), .val (.ref b94), .val (.ref b91), .val (.int z115), .val (.int z117), .val (.int z119), .val (.ref b91), .val (.ref b120), .val (.int (1 : Int32))] [(.ref b127)])) rfl (by rw [hml]; rfl) (Steps.refl _) (argsL := []) (rest := []) (lenOf pd0_2 rfl) rfl (by show 2 * 0 + _ ≤ _; exact Nat.le_of_eq rfl) (hb hby at_219) (fun _ _ => ⟨rfl, rfl, (by decide : 9 + 0 ≤ _), (by decide : 37 + 0 ≤ _)⟩)
        dsimp only [Pt.U, Pt.locs, Pt.cells, Pt.slots] at X128 l128 y128 z128 st128 hQ128
        subst l128 y128 z128
        obtain ⟨rfl, N128q, e128⟩ := hQ128
        have N128 := Fr.app N126 N128q
        refine goT st128 ?_
        show Go p.tables e below T128 (mkF m 222 #[.val (.int p1), .val (.int p2), .val (.int p3), .val (.int p4), .val (.int (1 : Int32)), .val (.int z89), .val (.ref b91), .val (.ref b91), .val (.ref b94), .val (.ref b91), .val (.int z115), .val (.int z117), .val (.int z119), .val (.ref b91), .val (.ref b120), .val (.int (1 : Int32))] [(.int (0 : Int32))]) _
        refine go1 (fun _ => XS.ifNo X128.here hx rfl (hb hby at_222) rfl ((if0 _ _).trans (teq (by decide : (0 : Int32) = (0 : Int32))).2)) ?_
        show Go p.tables e below T128 (mkF m 225 #[.val (.int p1), .val (.int p2), .val (.int p3), .val (.int p4), .val (.int (1 : Int32)), .val (.int z89), .val (.ref b91), .val (.ref b91), .val (.ref b94), .val (.ref b91), .val (.int z115), .val (.int z117), .val (.int z119), .val (.ref b91), .val (.ref b120), .val (.int (1 : Int32))] []) _
        refine go1 (fun _ => XS.iconst X128.here hx rfl (hb hby at_225)) ?_
        show Go p.tables e below T128 (mkF m 226 #[.val (.int p1), .val (.int p2), .val (.int p3), .val (.int p4), .val (.int (1 : Int32)), .val (.int z89), .val (.ref b91), .val (.ref b91), .val (.ref b94), .val (.ref b91), .val (.int z115), .val (.int z117), .val (.int z119), .val (.ref b91), .val (.ref b120), .val (.int (1 : Int32))] [(.int (1 : Int32))]) _
        refine go1 (fun _ => XS.goto X128.here hx rfl (pc0 := 226) (pc' := 230) rfl (hb hby at_226) (by decide) (by decide)) ?_
        show Go p.tables e below T128 (mkF m 230 #[.val (.int p1), .val (.int p2), .val (.int p3), .val (.int p4), .val (.int (1 : Int32)), .val (.int z89), .val (.ref b91), .val (.ref b91), .val (.ref b94), .val (.ref b91), .val (.int z115), .val (.int z117), .val (.int z119), .val (.ref b91), .val (.ref b120), .val (.int (1 : Int32))] [(.int (1 : Int32))]) _
        refine go1 (fun _ => XS.istore X128.here hx rfl (hb hby at_230) rfl (l' := #[.val (.int p1), .val (.int p2), .val (.int p3), .val (.int p4), .val (.int (1 : Int32)), .val (.int z89), .val (.ref b91), .val (.ref b91), .val (.ref b94), .val (.ref b91), .val (.int z115), .val (.int z117), .val (.int z119), .val (.ref b91), .val (.ref b120), .val (.int (1 : Int32))]) rfl) ?_
        show Go p.tables e below T128 (mkF m 232 #[.val (.int p1), .val (.int p2), .val (.int p3), .val (.int p4), .val (.int (1 : Int32)), .val (.int z89), .val (.ref b91), .val (.ref b91), .val (.ref b94), .val (.ref b91), .val (.int z115), .val (.int z117), .val (.int z119), .val (.ref b91), .val (.ref b120), .val (.int (1 : Int32))] []) _
        refine go1 (fun _ => XS.iload X128.here hx rfl (hb hby at_232) rfl) ?_
        show Go p.tables e below T128 (mkF m 234 #[.val (.int p1), .val (.int p2), .val (.int p3), .val (.int p4), .val (.int (1 : Int32)), .val (.int z89), .val (.ref b91), .val (.ref b91), .val (.ref b94), .val (.ref b91), .val (.int z115), .val (.int z117), .val (.int z119), .val (.ref b91), .val (.ref b120), .val (.int (1 : Int32))] [(.int (1 : Int32))]) _
        refine go1 (fun _ => XS.ifNo X128.here hx rfl (hb hby at_234) rfl ((if0 _ _).trans (feq (by decide : ¬ ((1 : Int32) = (0 : Int32)))).1)) ?_
        show Go p.tables e below T128 (mkF m 237 #[.val (.int p1), .val (.int p2), .val (.int p3), .val (.int p4), .val (.int (1 : Int32)), .val (.int z89), .val (.ref b91), .val (.ref b91), .val (.ref b94), .val (.ref b91), .val (.int z115), .val (.int z117), .val (.int z119), .val (.ref b91), .val (.ref b120), .val (.int (1 : Int32))] []) _
        refine go1 (fun _ => XS.aload X128.here hx rfl (hb hby at_237) rfl rfl) ?_
        show Go p.tables e below T128 (mkF m 239 #[.val (.int p1), .val (.int p2), .val (.int p3), .val (.int p4), .val (.int (1 : Int32)), .val (.int z89), .val (.ref b91), .val (.ref b91), .val (.ref b94), .val (.ref b91), .val (.int z115), .val (.int z117), .val (.int z119), .val (.ref b91), .val (.ref b120), .val (.int (1 : Int32))] [(.ref b91)]) _
        refine go1 (fun _ => XS.aload X128.here hx rfl (hb hby at_239) rfl rfl) ?_
        show Go p.tables e below T128 (mkF m 241 #[.val (.int p1), .val (.int p2), .val (.int p3), .val (.int p4), .val (.int (1 : Int32)), .val (.int z89), .val (.ref b91), .val (.ref b91), .val (.ref b94), .val (.ref b91), .val (.int z115), .val (.int z117), .val (.int z119), .val (.ref b91), .val (.ref b120), .val (.int (1 : Int32))] [(.ref b91), (.ref b91)]) _
        refine go1 (fun _ => XS.aload X128.here hx rfl (hb hby at_241) rfl rfl) ?_
        show Go p.tables e below T128 (mkF m 243 #[.val (.int p1), .val (.int p2), .val (.int p3), .val (.int p4), .val (.int (1 : Int32)), .val (.int z89), .val (.ref b91), .val (.ref b91), .val (.ref b94), .val (.ref b91), .val (.int z115), .val (.int z117), .val (.int z119), .val (.ref b91), .val (.ref b120), .val (.int (1 : Int32))] [(.ref b94), (.ref b91), (.ref b91)]) _
        obtain ⟨_, _, ⟨T129, L129, k129, n129⟩, -, X129, ⟨Lc129, hQ129, l129, y129, z129⟩, st129⟩ := Jvm.LawKit.callS X128 hx (y := (⟨"com/example/enrout/enrout/broker/cli/Option", "optional", "(Ljava/lang/String;Ljava/lang/String;Ljava/lang/String;)Lcom/example/enrout/enrout/broker/cli/Option;"⟩ : MethodName)) hown93 (mvT hZ93 (hw _ (List.mem_of_getElem? (i := 53) rfl))) (mvT hZ93 (hw _ (List.mem_of_getElem? (i := 54) rfl))) (mvT hZ93 (hw _ (List.mem_of_getElem? (i := 14) rfl))) (mvT hZ93 (hw _ (List.mem_of_getElem? (i := 55) rfl))) (by decide) (backOf (W := 0) (rm8 l Z a0 hw [] b91 b91 b94 T126.heap n0 (Nat.le_trans (Nat.le_trans (Nat.le_trans (Nat.le_trans (Nat.le_trans (Nat.le_trans Z0 K90.1) K93.1) E120.1) K121.1) K123.1) K126.1) ) hZ93 (hw _ (List.mem_of_getElem? (i := 55) rfl)) (hw _ (List.mem_of_getElem? (i := 14) rfl)) (by decide) (by decide)) (g := (mkF m 243 #[.val (.int p1), .val (.int p2), .val (.int p3), .val (.int p4), .val (.int (1 : Int32)), .val (.int z89), .val (.ref b91), .val (.ref b91), .val (.ref b94), .val (.ref b91), .val (.int z115), .val (.int z117), .val (.int z119), .val (.ref b91), .val (.ref b120), .val (.int (1 : Int32))] [(.ref b94), (.ref b91), (.ref b91)])) rfl (by rw [hml]; rfl) (argsL := [(.ref b91), (.ref b91), (.ref b94)]) (rest := []) (lenOf pd0_4 rfl) rfl (by show 2 * 0 + _ ≤ _; exact Nat.le_of_eq rfl) (hb hby at_243) (fun _ _ => ⟨rfl, e128, (by decide : 9 + 1 ≤ _), (by decide : 37 + 7 ≤ _)⟩)
        dsimp only [Pt.U, Pt.locs, Pt.cells, Pt.slots] at X129 l129 y129 z129 st129 hQ129
        subst l129 y129 z129
        obtain ⟨b130, rfl, N129q, K129, G129_0, G129_1⟩ := hQ129
        have N129 := Fr.app N128 N129q
        refine go1 st129 ?_
        show Go p.tables e below T129 (mkF m 246 #[.val (.int p1), .val (.int p2), .val (.int p3), .val (.int p4), .val (.int (1 : Int32)), .val (.int z89), .val (.ref b91), .val (.ref b91), .val (.ref b94), .val (.ref b91), .val (.int z115), .val (.int z117), .val (.int z119), .val (.ref b91), .val (.ref b120), .val (.int (1 : Int32))] [(.ref b130)]) _
        obtain ⟨cq131, kq131, q131a, q131b, q131c⟩ := isOf hZ93 rfl G129_0
        obtain ⟨_, _, ⟨T131, L131, k131, n131⟩, -, X131, ⟨Lc131, hQ131, l131, y131, z131⟩, st131⟩ := X129.virtualBack hx (y := (⟨"com/example/enrout/enrout/broker/cli/Option", "isFlag", "()Z"⟩ : MethodName)) (z := (⟨"com/example/enrout/enrout/broker/cli/Option", "isFlag", "()Z"⟩ : MethodName)) hown93 (mvT hZ93 (hw _ (List.mem_of_getElem? (i := 40) rfl))) (mvT hZ93 (hw _ (List.mem_of_getElem? (i := 41) rfl))) (notFace_of_selects (args := #[]) (mvT hZ93 (hw _ (List.mem_of_getElem? (i := 43) rfl)))) (mvT hZ93 (hw _ (List.mem_of_getElem? (i := 43) rfl))) (mvT hZ93 (hw _ (List.mem_of_getElem? (i := 42) rfl))) (by decide) (backOf (W := 0) (rmisb l Z a0 hw [] b130 b91 T129.heap n0 (Nat.le_trans (Nat.le_trans (Nat.le_trans (Nat.le_trans (Nat.le_trans (Nat.le_trans (Nat.le_trans Z0 K90.1) K93.1) E120.1) K121.1) K123.1) K126.1) K129.1) G129_1) hZ93 (hw _ (List.mem_of_getElem? (i := 44) rfl)) (hw _ (List.mem_of_getElem? (i := 14) rfl)) (by decide) (by decide)) q131a q131c (g := (mkF m 246 #[.val (.int p1), .val (.int p2), .val (.int p3), .val (.int p4), .val (.int (1 : Int32)), .val (.int z89), .val (.ref b91), .val (.ref b91), .val (.ref b94), .val (.ref b91), .val (.int z115), .val (.int z117), .val (.int z119), .val (.ref b91), .val (.ref b120), .val (.int (1 : Int32))] [(.ref b130)])) rfl (by rw [hml]; rfl) (Steps.refl _) (argsL := []) (rest := []) (lenOf pd0_2 rfl) rfl (by show 2 * 0 + _ ≤ _; exact Nat.le_of_eq rfl) (hb hby at_246) (fun _ _ => ⟨rfl, rfl, (by decide : 10 + 0 ≤ _), (by decide : 44 + 0 ≤ _)⟩)
        dsimp only [Pt.U, Pt.locs, Pt.cells, Pt.slots] at X131 l131 y131 z131 st131 hQ131
        subst l131 y131 z131
        obtain ⟨rfl, N131q, e131⟩ := hQ131
        have N131 := Fr.app N129 N131q
        refine goT st131 ?_
        show Go p.tables e below T131 (mkF m 249 #[.val (.int p1), .val (.int p2), .val (.int p3), .val (.int p4), .val (.int (1 : Int32)), .val (.int z89), .val (.ref b91), .val (.ref b91), .val (.ref b94), .val (.ref b91), .val (.int z115), .val (.int z117), .val (.int z119), .val (.ref b91), .val (.ref b120), .val (.int (1 : Int32))] [(.int (0 : Int32))]) _
        refine go1 (fun _ => XS.ifNo X131.here hx rfl (hb hby at_249) rfl ((if0 _ _).trans (teq (by decide : (0 : Int32) = (0 : Int32))).2)) ?_
        show Go p.tables e below T131 (mkF m 252 #[.val (.int p1), .val (.int p2), .val (.int p3), .val (.int p4), .val (.int (1 : Int32)), .val (.int z89), .val (.ref b91), .val (.ref b91), .val (.ref b94), .val (.ref b91), .val (.int z115), .val (.int z117), .val (.int z119), .val (.ref b91), .val (.ref b120), .val (.int (1 : Int32))] []) _
        refine go1 (fun _ => XS.iconst X131.here hx rfl (hb hby at_252)) ?_
        show Go p.tables e below T131 (mkF m 253 #[.val (.int p1), .val (.int p2), .val (.int p3), .val (.int p4), .val (.int (1 : Int32)), .val (.int z89), .val (.ref b91), .val (.ref b91), .val (.ref b94), .val (.ref b91), .val (.int z115), .val (.int z117), .val (.int z119), .val (.ref b91), .val (.ref b120), .val (.int (1 : Int32))] [(.int (1 : Int32))]) _
        refine go1 (fun _ => XS.goto X131.here hx rfl (pc0 := 253) (pc' := 257) rfl (hb hby at_253) (by decide) (by decide)) ?_
        show Go p.tables e below T131 (mkF m 257 #[.val (.int p1), .val (.int p2), .val (.int p3), .val (.int p4), .val (.int (1 : Int32)), .val (.int z89), .val (.ref b91), .val (.ref b91), .val (.ref b94), .val (.ref b91), .val (.int z115), .val (.int z117), .val (.int z119), .val (.ref b91), .val (.ref b120), .val (.int (1 : Int32))] [(.int (1 : Int32))]) _
        refine go1 (fun _ => XS.istore X131.here hx rfl (hb hby at_257) rfl (l' := #[.val (.int p1), .val (.int p2), .val (.int p3), .val (.int p4), .val (.int (1 : Int32)), .val (.int z89), .val (.ref b91), .val (.ref b91), .val (.ref b94), .val (.ref b91), .val (.int z115), .val (.int z117), .val (.int z119), .val (.ref b91), .val (.ref b120), .val (.int (1 : Int32))]) rfl) ?_
        show Go p.tables e below T131 (mkF m 259 #[.val (.int p1), .val (.int p2), .val (.int p3), .val (.int p4), .val (.int (1 : Int32)), .val (.int z89), .val (.ref b91), .val (.ref b91), .val (.ref b94), .val (.ref b91), .val (.int z115), .val (.int z117), .val (.int z119), .val (.ref b91), .val (.ref b120), .val (.int (1 : Int32))] []) _
        refine go1 (fun _ => XS.iload X131.here hx rfl (hb hby at_259) rfl) ?_
        show Go p.tables e below T131 (mkF m 261 #[.val (.int p1), .val (.int p2), .val (.int p3), .val (.int p4), .val (.int (1 : Int32)), .val (.int z89), .val (.ref b91), .val (.ref b91), .val (.ref b94), .val (.ref b91), .val (.int z115), .val (.int z117), .val (.int z119), .val (.ref b91), .val (.ref b120), .val (.int (1 : Int32))] [(.int (1 : Int32))]) _
        refine goRW (s := s) (vm₁ := T93.vm) X131 hS93 (by rw [e131]; exact (Nat.le_trans (Nat.le_trans (Nat.le_trans (Nat.le_trans (Nat.le_trans (Nat.le_refl _) E120.1) K121.1) K123.1) K126.1) K129.1)) (BodyLoose.notSynchronized Bd) (v := (some (.int (1 : Int32)))) (fun h => by rw [Bd.returns] at h; cases h) (Q0 Z p1 p2 p3 p4 a_COMPACT_STRINGS h0 n0) (fun fs hr => retN X131 hx (t := .boolean) Bd.returns (by simp) (hb hby at_261) hr) (by decide) (by decide) ?_
        show Q0 Z p1 p2 p3 p4 a_COMPACT_STRINGS h0 n0 _ T131.heap _
        rw [e131]
        exact ⟨rfl, N131⟩
    · skip
      refine go1 (fun _ => XS.ifNo X90.here hx rfl (hb hby at_43) rfl ((if0 _ _).trans (feq hc92).1)) ?_
      show Go p.tables e below T90 (mkF m 46 #[.val (.int p1), .val (.int p2), .val (.int p3), .val (.int p4), .val (.int (1 : Int32)), .val (.int z89), .val (.ref b91), .unset, .unset, .unset, .unset, .unset, .unset, .unset, .unset, .unset] []) _
      obtain ⟨b132, T132, h132, kk132, X132, e132, E132, hS132, hk132, hZ132, hown132, st132⟩ := ldcS (s := s) (vm0 := T90.vm) X90 hx hZ90 hown90 (hw _ (List.mem_of_getElem? (i := 93) rfl)) wS rfl hS90 (Nat.le_refl _) (g := (mkF m 46 #[.val (.int p1), .val (.int p2), .val (.int p3), .val (.int p4), .val (.int (1 : Int32)), .val (.int z89), .val (.ref b91), .unset, .unset, .unset, .unset, .unset, .unset, .unset, .unset, .unset] [])) rfl (hb hby at_46) (n := 12) (by decide) (by decide) (by decide) (by decide)
      refine go1 st132 ?_
      show Go p.tables e below T132 (mkF m 48 #[.val (.int p1), .val (.int p2), .val (.int p3), .val (.int p4), .val (.int (1 : Int32)), .val (.int z89), .val (.ref b91), .unset, .unset, .unset, .unset, .unset, .unset, .unset, .unset, .unset] [(.ref b132)]) _
      refine go1 (fun _ => XS.goto X132.here hx rfl (pc0 := 48) (pc' := 53) rfl (hb hby at_48) (by decide) (by decide)) ?_
      show Go p.tables e below T132 (mkF m 53 #[.val (.int p1), .val (.int p2), .val (.int p3), .val (.int p4), .val (.int (1 : Int32)), .val (.int z89), .val (.ref b91), .unset, .unset, .unset, .unset, .unset, .unset, .unset, .unset, .unset] [(.ref b132)]) _
      refine go1 (fun _ => XS.astore X132.here hx rfl (hb hby at_53) rfl rfl (l' := #[.val (.int p1), .val (.int p2), .val (.int p3), .val (.int p4), .val (.int (1 : Int32)), .val (.int z89), .val (.ref b91), .val (.ref b132), .unset, .unset, .unset, .unset, .unset, .unset, .unset, .unset]) rfl) ?_
      show Go p.tables e below T132 (mkF m 55 #[.val (.int p1), .val (.int p2), .val (.int p3), .val (.int p4), .val (.int (1 : Int32)), .val (.int z89), .val (.ref b91), .val (.ref b132), .unset, .unset, .unset, .unset, .unset, .unset, .unset, .unset] []) _
      refine go1 (fun _ => XS.iloadN X132.here hx rfl (hb hby at_55) rfl) ?_
      show Go p.tables e below T132 (mkF m 56 #[.val (.int p1), .val (.int p2), .val (.int p3), .val (.int p4), .val (.int (1 : Int32)), .val (.int z89), .val (.ref b91), .val (.ref b132), .unset, .unset, .unset, .unset, .unset, .unset, .unset, .unset] [(.int p4)]) _
      refine go1 (fun _ => XS.iconst X132.here hx rfl (hb hby at_56)) ?_
      show Go p.tables e below T132 (mkF m 57 #[.val (.int p1), .val (.int p2), .val (.int p3), .val (.int p4), .val (.int (1 : Int32)), .val (.int z89), .val (.ref b91), .val (.ref b132), .unset, .unset, .unset, .unset, .unset, .unset, .unset, .unset] [(.int (5 : Int32)), (.int p4)]) _
      refine go1 (fun _ => XS.iushr X132.here hx rfl (hb hby at_57) rfl) ?_
      show Go p.tables e below T132 (mkF m 58 #[.val (.int p1), .val (.int p2), .val (.int p3), .val (.int p4), .val (.int (1 : Int32)), .val (.int z89), .val (.ref b91), .val (.ref b132), .unset, .unset, .unset, .unset, .unset, .unset, .unset, .unset] [(.int ((p4.toUInt32 >>> ((5 : Int32) &&& 31).toUInt32).toInt32))]) _
      refine go1 (fun _ => XS.iconst X132.here hx rfl (hb hby at_58)) ?_
      show Go p.tables e below T132 (mkF m 59 #[.val (.int p1), .val (.int p2), .val (.int p3), .val (.int p4), .val (.int (1 : Int32)), .val (.int z89), .val (.ref b91), .val (.ref b132), .unset, .unset, .unset, .unset, .unset, .unset, .unset, .unset] [(.int (1 : Int32)), (.int ((p4.toUInt32 >>> ((5 : Int32) &&& 31).toUInt32).toInt32))]) _
      refine go1 (fun _ => XS.iand X132.here hx rfl (hb hby at_59) rfl) ?_
      show Go p.tables e below T132 (mkF m 60 #[.val (.int p1), .val (.int p2), .val (.int p3), .val (.int p4), .val (.int (1 : Int32)), .val (.int z89), .val (.ref b91), .val (.ref b132), .unset, .unset, .unset, .unset, .unset, .unset, .unset, .unset] [(.int (((p4.toUInt32 >>> ((5 : Int32) &&& 31).toUInt32).toInt32) &&& (1 : Int32)))]) _
      refine go1 (fun _ => XS.iloadN X132.here hx rfl (hb hby at_60) rfl) ?_
      show Go p.tables e below T132 (mkF m 61 #[.val (.int p1), .val (.int p2), .val (.int p3), .val (.int p4), .val (.int (1 : Int32)), .val (.int z89), .val (.ref b91), .val (.ref b132), .unset, .unset, .unset, .unset, .unset, .unset, .unset, .unset] [(.int p3), (.int (((p4.toUInt32 >>> ((5 : Int32) &&& 31).toUInt32).toInt32) &&& (1 : Int32)))]) _
      refine go1 (fun _ => XS.iloadN X132.here hx rfl (hb hby at_61) rfl) ?_
      show Go p.tables e below T132 (mkF m 62 #[.val (.int p1), .val (.int p2), .val (.int p3), .val (.int p4), .val (.int (1 : Int32)), .val (.int z89), .val (.ref b91), .val (.ref b132), .unset, .unset, .unset, .unset, .unset, .unset, .unset, .unset] [(.int p2), (.int p3), (.int (((p4.toUInt32 >>> ((5 : Int32) &&& 31).toUInt32).toInt32) &&& (1 : Int32)))]) _
      obtain ⟨_, _, ⟨T133, L133, k133, n133⟩, -, X133, hq133, hg133, ⟨Lc133, hQ133, l133, y133, z133⟩, st133⟩ := callSS X132 hx (y := (⟨"com/example/enrout/enrout/broker/cli/OptionIsFlagPinLaw", "drawn", "(III)Ljava/lang/String;"⟩ : MethodName)) hown132 (mvT hZ132 (hw _ (List.mem_of_getElem? (i := 0) rfl))) (mvT hZ132 (hw _ (List.mem_of_getElem? (i := 1) rfl))) (mvT hZ132 (hw _ (List.mem_of_getElem? (i := 2) rfl))) (mvT hZ132 (hw _ (List.mem_of_getElem? (i := 3) rfl))) (by decide) (backOfS (W := 0) (rm1 l Z a0 hw [] (((p4.toUInt32 >>> ((5 : Int32) &&& 31).toUInt32).toInt32) &&& (1 : Int32)) p3 p2 a_COMPACT_STRINGS h132 n0 (Nat.le_trans (Nat.le_trans Z0 K90.1) E132.1) ((O0.keep K90 all0).ext E132) S_COMPACT_STRINGS P_a_COMPACT_STRINGS) hZ132 (hw _ (List.mem_of_getElem? (i := 3) rfl)) (hw _ (List.mem_of_getElem? (i := 2) rfl)) (by decide) (by decide)) (g := (mkF m 62 #[.val (.int p1), .val (.int p2), .val (.int p3), .val (.int p4), .val (.int (1 : Int32)), .val (.int z89), .val (.ref b91), .val (.ref b132), .unset, .unset, .unset, .unset, .unset, .unset, .unset, .unset] [(.int p2), (.int p3), (.int (((p4.toUInt32 >>> ((5 : Int32) &&& 31).toUInt32).toInt32) &&& (1 : Int32)))])) rfl (by rw [hml]; rfl) (argsL := [(.int (((p4.toUInt32 >>> ((5 : Int32) &&& 31).toUInt32).toInt32) &&& (1 : Int32))), (.int p3), (.int p2)]) (rest := []) (lenOf pd0_0 rfl) rfl (by show 2 * 0 + _ ≤ _; exact Nat.le_of_eq rfl) (hb hby at_62) (fun _ _ => ⟨rfl, e132, (by decide : 5 + 3 ≤ _), (by decide : 24 + 8 ≤ _)⟩)
      dsimp only [Pt.U, Pt.locs, Pt.cells, Pt.slots] at X133 l133 y133 z133 st133 hQ133 hq133 hg133
      subst l133 y133 z133
      have hS133 : s.Since T133.vm T133.heap.size := foldS (s := s) (vm0 := T132.vm) (T := T132) hS132 (by rw [e132]; exact hk132) hq133 hg133
      have hZ133 : Z.Warmed39 T133.vm := State.Warmed39.trans (t := s.setVm T132.vm) hZ132 hq133.1
      have hown133 : T133.vm.findClass "com/example/enrout/enrout/broker/cli/OptionIsFlagPinLaw" = some m.cls := by
        rw [hq133.1.alike.findClass]; exact hown132
      obtain ⟨b134, rfl, N133q, K133⟩ := hQ133
      have N133 := Fr.app N90 N133q
      refine goT st133 ?_
      show Go p.tables e below T133 (mkF m 65 #[.val (.int p1), .val (.int p2), .val (.int p3), .val (.int p4), .val (.int (1 : Int32)), .val (.int z89), .val (.ref b91), .val (.ref b132), .unset, .unset, .unset, .unset, .unset, .unset, .unset, .unset] [(.ref b134)]) _
      refine go1 (fun _ => XS.astore X133.here hx rfl (hb hby at_65) rfl rfl (l' := #[.val (.int p1), .val (.int p2), .val (.int p3), .val (.int p4), .val (.int (1 : Int32)), .val (.int z89), .val (.ref b91), .val (.ref b132), .val (.ref b134), .unset, .unset, .unset, .unset, .unset, .unset, .unset]) rfl) ?_
      show Go p.tables e below T133 (mkF m 67 #[.val (.int p1), .val (.int p2), .val (.int p3), .val (.int p4), .val (.int (1 : Int32)), .val (.int z89), .val (.ref b91), .val (.ref b132), .val (.ref b134), .unset, .unset, .unset, .unset, .unset, .unset, .unset] []) _
      refine go1 (fun _ => XS.iloadN X133.here hx rfl (hb hby at_67) rfl) ?_
      show Go p.tables e below T133 (mkF m 68 #[.val (.int p1), .val (.int p2), .val (.int p3), .val (.int p4), .val (.int (1 : Int32)), .val (.int z89), .val (.ref b91), .val (.ref b132), .val (.ref b134), .unset, .unset, .unset, .unset, .unset, .unset, .unset] [(.int p4)]) _
      refine go1 (fun _ => XS.bipush X133.here hx rfl (hb hby at_68)) ?_
      show Go p.tables e below T133 (mkF m 70 #[.val (.int p1), .val (.int p2), .val (.int p3), .val (.int p4), .val (.int (1 : Int32)), .val (.int z89), .val (.ref b91), .val (.ref b132), .val (.ref b134), .unset, .unset, .unset, .unset, .unset, .unset, .unset] [(.int (8 : Int32)), (.int p4)]) _
      refine go1 (fun _ => XS.iand X133.here hx rfl (hb hby at_70) rfl) ?_
      show Go p.tables e below T133 (mkF m 71 #[.val (.int p1), .val (.int p2), .val (.int p3), .val (.int p4), .val (.int (1 : Int32)), .val (.int z89), .val (.ref b91), .val (.ref b132), .val (.ref b134), .unset, .unset, .unset, .unset, .unset, .unset, .unset] [(.int (p4 &&& (8 : Int32)))]) _
      by_cases hc135 : (p4 &&& (8 : Int32)) = (0 : Int32)
      · skip
        refine go1 (fun _ => XS.ifYes X133.here hx rfl (pc0 := 71) (pc' := 79) rfl (hb hby at_71) rfl ((if0 _ _).trans (teq hc135).1) (by decide) (by decide)) ?_
        show Go p.tables e below T133 (mkF m 79 #[.val (.int p1), .val (.int p2), .val (.int p3), .val (.int p4), .val (.int (1 : Int32)), .val (.int z89), .val (.ref b91), .val (.ref b132), .val (.ref b134), .unset, .unset, .unset, .unset, .unset, .unset, .unset] []) _
        refine go1 (fun _ => XS.aconstNull X133.here hx rfl (hb hby at_79)) ?_
        show Go p.tables e below T133 (mkF m 80 #[.val (.int p1), .val (.int p2), .val (.int p3), .val (.int p4), .val (.int (1 : Int32)), .val (.int z89), .val (.ref b91), .val (.ref b132), .val (.ref b134), .unset, .unset, .unset, .unset, .unset, .unset, .unset] [.null]) _
        refine go1 (fun _ => XS.astore X133.here hx rfl (hb hby at_80) rfl rfl (l' := #[.val (.int p1), .val (.int p2), .val (.int p3), .val (.int p4), .val (.int (1 : Int32)), .val (.int z89), .val (.ref b91), .val (.ref b132), .val (.ref b134), .val .null, .unset, .unset, .unset, .unset, .unset, .unset]) rfl) ?_
        show Go p.tables e below T133 (mkF m 82 #[.val (.int p1), .val (.int p2), .val (.int p3), .val (.int p4), .val (.int (1 : Int32)), .val (.int z89), .val (.ref b91), .val (.ref b132), .val (.ref b134), .val .null, .unset, .unset, .unset, .unset, .unset, .unset] []) _
        refine go1 (fun _ => XS.iloadN X133.here hx rfl (hb hby at_82) rfl) ?_
        show Go p.tables e below T133 (mkF m 83 #[.val (.int p1), .val (.int p2), .val (.int p3), .val (.int p4), .val (.int (1 : Int32)), .val (.int z89), .val (.ref b91), .val (.ref b132), .val (.ref b134), .val .null, .unset, .unset, .unset, .unset, .unset, .unset] [(.int p4)]) _
        refine go1 (fun _ => XS.iconst X133.here hx rfl (hb hby at_83)) ?_
        show Go p.tables e below T133 (mkF m 84 #[.val (.int p1), .val (.int p2), .val (.int p3), .val (.int p4), .val (.int (1 : Int32)), .val (.int z89), .val (.ref b91), .val (.ref b132), .val (.ref b134), .val .null, .unset, .unset, .unset, .unset, .unset, .unset] [(.int (1 : Int32)), (.int p4)]) _
        refine go1 (fun _ => XS.iand X133.here hx rfl (hb hby at_84) rfl) ?_
        show Go p.tables e below T133 (mkF m 85 #[.val (.int p1), .val (.int p2), .val (.int p3), .val (.int p4), .val (.int (1 : Int32)), .val (.int z89), .val (.ref b91), .val (.ref b132), .val (.ref b134), .val .null, .unset, .unset, .unset, .unset, .unset, .unset] [(.int (p4 &&& (1 : Int32)))]) _
        refine go1 (T' := T133) (g' := (mkF m 93 #[.val (.int p1), .val (.int p2), .val (.int p3), .val (.int p4), .val (.int (1 : Int32)), .val (.int z89), .val (.ref b91), .val (.ref b132), .val (.ref b134), .val .null, .unset, .unset, .unset, .unset, .unset, .unset] [(.int (if (p4 &&& (1 : Int32)) = (0 : Int32) then (0 : Int32) else (1 : Int32)))])) (fun t k => ?_) ?_
        · by_cases hd136 : (p4 &&& (1 : Int32)) = (0 : Int32)
          · skip
            rw [(if_pos hd136 : (if (p4 &&& (1 : Int32)) = (0 : Int32) then (0 : Int32) else (1 : Int32)) = (0 : Int32))] at k
            show Steps p.tables e below (T133.setTop (mkF m 85 #[.val (.int p1), .val (.int p2), .val (.int p3), .val (.int p4), .val (.int (1 : Int32)), .val (.int z89), .val (.ref b91), .val (.ref b132), .val (.ref b134), .val .null, .unset, .unset, .unset, .unset, .unset, .unset] [(.int (p4 &&& (1 : Int32)))])) _
            refine XS.ifYes X133.here hx rfl (pc0 := 85) (pc' := 92) rfl (hb hby at_85) rfl ((if0 _ _).trans (teq hd136).1) (by decide) (by decide) ?_
            show Steps p.tables e below (T133.setTop (mkF m 92 #[.val (.int p1), .val (.int p2), .val (.int p3), .val (.int p4), .val (.int (1 : Int32)), .val (.int z89), .val (.ref b91), .val (.ref b132), .val (.ref b134), .val .null, .unset, .unset, .unset, .unset, .unset, .unset] [])) _
            refine XS.iconst X133.here hx rfl (hb hby at_92) ?_
            show Steps p.tables e below (T133.setTop (mkF m 93 #[.val (.int p1), .val (.int p2), .val (.int p3), .val (.int p4), .val (.int (1 : Int32)), .val (.int z89), .val (.ref b91), .val (.ref b132), .val (.ref b134), .val .null, .unset, .unset, .unset, .unset, .unset, .unset] [(.int (0 : Int32))])) _
            exact k
          · skip
            rw [(if_neg hd136 : (if (p4 &&& (1 : Int32)) = (0 : Int32) then (0 : Int32) else (1 : Int32)) = (1 : Int32))] at k
            show Steps p.tables e below (T133.setTop (mkF m 85 #[.val (.int p1), .val (.int p2), .val (.int p3), .val (.int p4), .val (.int (1 : Int32)), .val (.int z89), .val (.ref b91), .val (.ref b132), .val (.ref b134), .val .null, .unset, .unset, .unset, .unset, .unset, .unset] [(.int (p4 &&& (1 : Int32)))])) _
            refine XS.ifNo X133.here hx rfl (hb hby at_85) rfl ((if0 _ _).trans (feq hd136).1) ?_
            show Steps p.tables e below (T133.setTop (mkF m 88 #[.val (.int p1), .val (.int p2), .val (.int p3), .val (.int p4), .val (.int (1 : Int32)), .val (.int z89), .val (.ref b91), .val (.ref b132), .val (.ref b134), .val .null, .unset, .unset, .unset, .unset, .unset, .unset] [])) _
            refine XS.iconst X133.here hx rfl (hb hby at_88) ?_
            show Steps p.tables e below (T133.setTop (mkF m 89 #[.val (.int p1), .val (.int p2), .val (.int p3), .val (.int p4), .val (.int (1 : Int32)), .val (.int z89), .val (.ref b91), .val (.ref b132), .val (.ref b134), .val .null, .unset, .unset, .unset, .unset, .unset, .unset] [(.int (1 : Int32))])) _
            refine XS.goto X133.here hx rfl (pc0 := 89) (pc' := 93) rfl (hb hby at_89) (by decide) (by decide) ?_
            show Steps p.tables e below (T133.setTop (mkF m 93 #[.val (.int p1), .val (.int p2), .val (.int p3), .val (.int p4), .val (.int (1 : Int32)), .val (.int z89), .val (.ref b91), .val (.ref b132), .val (.ref b134), .val .null, .unset, .unset, .unset, .unset, .unset, .unset] [(.int (1 : Int32))])) _
            exact k
        show Go p.tables e below T133 (mkF m 93 #[.val (.int p1), .val (.int p2), .val (.int p3), .val (.int p4), .val (.int (1 : Int32)), .val (.int z89), .val (.ref b91), .val (.ref b132), .val (.ref b134), .val .null, .unset, .unset, .unset, .unset, .unset, .unset] [(.int (if (p4 &&& (1 : Int32)) = (0 : Int32) then (0 : Int32) else (1 : Int32)))]) _
        obtain ⟨z137, hz137⟩ : ∃ z : Int32, z = (if (p4 &&& (1 : Int32)) = (0 : Int32) then (0 : Int32) else (1 : Int32)) := ⟨_, rfl⟩
        rw [← hz137]
        show Go p.tables e below T133 (mkF m 93 #[.val (.int p1), .val (.int p2), .val (.int p3), .val (.int p4), .val (.int (1 : Int32)), .val (.int z89), .val (.ref b91), .val (.ref b132), .val (.ref b134), .val .null, .unset, .unset, .unset, .unset, .unset, .unset] [(.int z137)]) _
        refine go1 (fun _ => XS.istore X133.here hx rfl (hb hby at_93) rfl (l' := #[.val (.int p1), .val (.int p2), .val (.int p3), .val (.int p4), .val (.int (1 : Int32)), .val (.int z89), .val (.ref b91), .val (.ref b132), .val (.ref b134), .val .null, .val (.int z137), .unset, .unset, .unset, .unset, .unset]) rfl) ?_
        show Go p.tables e below T133 (mkF m 95 #[.val (.int p1), .val (.int p2), .val (.int p3), .val (.int p4), .val (.int (1 : Int32)), .val (.int z89), .val (.ref b91), .val (.ref b132), .val (.ref b134), .val .null, .val (.int z137), .unset, .unset, .unset, .unset, .unset] []) _
        refine go1 (fun _ => XS.iloadN X133.here hx rfl (hb hby at_95) rfl) ?_
        show Go p.tables e below T133 (mkF m 96 #[.val (.int p1), .val (.int p2), .val (.int p3), .val (.int p4), .val (.int (1 : Int32)), .val (.int z89), .val (.ref b91), .val (.ref b132), .val (.ref b134), .val .null, .val (.int z137), .unset, .unset, .unset, .unset, .unset] [(.int p4)]) _
        refine go1 (fun _ => XS.iconst X133.here hx rfl (hb hby at_96)) ?_
        show Go p.tables e below T133 (mkF m 97 #[.val (.int p1), .val (.int p2), .val (.int p3), .val (.int p4), .val (.int (1 : Int32)), .val (.int z89), .val (.ref b91), .val (.ref b132), .val (.ref b134), .val .null, .val (.int z137), .unset, .unset, .unset, .unset, .unset] [(.int (2 : Int32)), (.int p4)]) _
        refine go1 (fun _ => XS.iand X133.here hx rfl (hb hby at_97) rfl) ?_
        show Go p.tables e below T133 (mkF m 98 #[.val (.int p1), .val (.int p2), .val (.int p3), .val (.int p4), .val (.int (1 : Int32)), .val (.int z89), .val (.ref b91), .val (.ref b132), .val (.ref b134), .val .null, .val (.int z137), .unset, .unset, .unset, .unset, .unset] [(.int (p4 &&& (2 : Int32)))]) _
        refine go1 (T' := T133) (g' := (mkF m 106 #[.val (.int p1), .val (.int p2), .val (.int p3), .val (.int p4), .val (.int (1 : Int32)), .val (.int z89), .val (.ref b91), .val (.ref b132), .val (.ref b134), .val .null, .val (.int z137), .unset, .unset, .unset, .unset, .unset] [(.int (if (p4 &&& (2 : Int32)) = (0 : Int32) then (0 : Int32) else (1 : Int32)))])) (fun t k => ?_) ?_
        · by_cases hd138 : (p4 &&& (2 : Int32)) = (0 : Int32)
          · skip
            rw [(if_pos hd138 : (if (p4 &&& (2 : Int32)) = (0 : Int32) then (0 : Int32) else (1 : Int32)) = (0 : Int32))] at k
            show Steps p.tables e below (T133.setTop (mkF m 98 #[.val (.int p1), .val (.int p2), .val (.int p3), .val (.int p4), .val (.int (1 : Int32)), .val (.int z89), .val (.ref b91), .val (.ref b132), .val (.ref b134), .val .null, .val (.int z137), .unset, .unset, .unset, .unset, .unset] [(.int (p4 &&& (2 : Int32)))])) _
            refine XS.ifYes X133.here hx rfl (pc0 := 98) (pc' := 105) rfl (hb hby at_98) rfl ((if0 _ _).trans (teq hd138).1) (by decide) (by decide) ?_
            show Steps p.tables e below (T133.setTop (mkF m 105 #[.val (.int p1), .val (.int p2), .val (.int p3), .val (.int p4), .val (.int (1 : Int32)), .val (.int z89), .val (.ref b91), .val (.ref b132), .val (.ref b134), .val .null, .val (.int z137), .unset, .unset, .unset, .unset, .unset] [])) _
            refine XS.iconst X133.here hx rfl (hb hby at_105) ?_
            show Steps p.tables e below (T133.setTop (mkF m 106 #[.val (.int p1), .val (.int p2), .val (.int p3), .val (.int p4), .val (.int (1 : Int32)), .val (.int z89), .val (.ref b91), .val (.ref b132), .val (.ref b134), .val .null, .val (.int z137), .unset, .unset, .unset, .unset, .unset] [(.int (0 : Int32))])) _
            exact k
          · skip
            rw [(if_neg hd138 : (if (p4 &&& (2 : Int32)) = (0 : Int32) then (0 : Int32) else (1 : Int32)) = (1 : Int32))] at k
            show Steps p.tables e below (T133.setTop (mkF m 98 #[.val (.int p1), .val (.int p2), .val (.int p3), .val (.int p4), .val (.int (1 : Int32)), .val (.int z89), .val (.ref b91), .val (.ref b132), .val (.ref b134), .val .null, .val (.int z137), .unset, .unset, .unset, .unset, .unset] [(.int (p4 &&& (2 : Int32)))])) _
            refine XS.ifNo X133.here hx rfl (hb hby at_98) rfl ((if0 _ _).trans (feq hd138).1) ?_
            show Steps p.tables e below (T133.setTop (mkF m 101 #[.val (.int p1), .val (.int p2), .val (.int p3), .val (.int p4), .val (.int (1 : Int32)), .val (.int z89), .val (.ref b91), .val (.ref b132), .val (.ref b134), .val .null, .val (.int z137), .unset, .unset, .unset, .unset, .unset] [])) _
            refine XS.iconst X133.here hx rfl (hb hby at_101) ?_
            show Steps p.tables e below (T133.setTop (mkF m 102 #[.val (.int p1), .val (.int p2), .val (.int p3), .val (.int p4), .val (.int (1 : Int32)), .val (.int z89), .val (.ref b91), .val (.ref b132), .val (.ref b134), .val .null, .val (.int z137), .unset, .unset, .unset, .unset, .unset] [(.int (1 : Int32))])) _
            refine XS.goto X133.here hx rfl (pc0 := 102) (pc' := 106) rfl (hb hby at_102) (by decide) (by decide) ?_
            show Steps p.tables e below (T133.setTop (mkF m 106 #[.val (.int p1), .val (.int p2), .val (.int p3), .val (.int p4), .val (.int (1 : Int32)), .val (.int z89), .val (.ref b91), .val (.ref b132), .val (.ref b134), .val .null, .val (.int z137), .unset, .unset, .unset, .unset, .unset] [(.int (1 : Int32))])) _
            exact k
        show Go p.tables e below T133 (mkF m 106 #[.val (.int p1), .val (.int p2), .val (.int p3), .val (.int p4), .val (.int (1 : Int32)), .val (.int z89), .val (.ref b91), .val (.ref b132), .val (.ref b134), .val .null, .val (.int z137), .unset, .unset, .unset, .unset, .unset] [(.int (if (p4 &&& (2 : Int32)) = (0 : Int32) then (0 : Int32) else (1 : Int32)))]) _
        obtain ⟨z139, hz139⟩ : ∃ z : Int32, z = (if (p4 &&& (2 : Int32)) = (0 : Int32) then (0 : Int32) else (1 : Int32)) := ⟨_, rfl⟩
        rw [← hz139]
        show Go p.tables e below T133 (mkF m 106 #[.val (.int p1), .val (.int p2), .val (.int p3), .val (.int p4), .val (.int (1 : Int32)), .val (.int z89), .val (.ref b91), .val (.ref b132), .val (.ref b134), .val .null, .val (.int z137), .unset, .unset, .unset, .unset, .unset] [(.int z139)]) _
        refine go1 (fun _ => XS.istore X133.here hx rfl (hb hby at_106) rfl (l' := #[.val (.int p1), .val (.int p2), .val (.int p3), .val (.int p4), .val (.int (1 : Int32)), .val (.int z89), .val (.ref b91), .val (.ref b132), .val (.ref b134), .val .null, .val (.int z137), .val (.int z139), .unset, .unset, .unset, .unset]) rfl) ?_
        show Go p.tables e below T133 (mkF m 108 #[.val (.int p1), .val (.int p2), .val (.int p3), .val (.int p4), .val (.int (1 : Int32)), .val (.int z89), .val (.ref b91), .val (.ref b132), .val (.ref b134), .val .null, .val (.int z137), .val (.int z139), .unset, .unset, .unset, .unset] []) _
        refine go1 (fun _ => XS.iloadN X133.here hx rfl (hb hby at_108) rfl) ?_
        show Go p.tables e below T133 (mkF m 109 #[.val (.int p1), .val (.int p2), .val (.int p3), .val (.int p4), .val (.int (1 : Int32)), .val (.int z89), .val (.ref b91), .val (.ref b132), .val (.ref b134), .val .null, .val (.int z137), .val (.int z139), .unset, .unset, .unset, .unset] [(.int p4)]) _
        refine go1 (fun _ => XS.iconst X133.here hx rfl (hb hby at_109)) ?_
        show Go p.tables e below T133 (mkF m 110 #[.val (.int p1), .val (.int p2), .val (.int p3), .val (.int p4), .val (.int (1 : Int32)), .val (.int z89), .val (.ref b91), .val (.ref b132), .val (.ref b134), .val .null, .val (.int z137), .val (.int z139), .unset, .unset, .unset, .unset] [(.int (4 : Int32)), (.int p4)]) _
        refine go1 (fun _ => XS.iand X133.here hx rfl (hb hby at_110) rfl) ?_
        show Go p.tables e below T133 (mkF m 111 #[.val (.int p1), .val (.int p2), .val (.int p3), .val (.int p4), .val (.int (1 : Int32)), .val (.int z89), .val (.ref b91), .val (.ref b132), .val (.ref b134), .val .null, .val (.int z137), .val (.int z139), .unset, .unset, .unset, .unset] [(.int (p4 &&& (4 : Int32)))]) _
        refine go1 (T' := T133) (g' := (mkF m 119 #[.val (.int p1), .val (.int p2), .val (.int p3), .val (.int p4), .val (.int (1 : Int32)), .val (.int z89), .val (.ref b91), .val (.ref b132), .val (.ref b134), .val .null, .val (.int z137), .val (.int z139), .unset, .unset, .unset, .unset] [(.int (if (p4 &&& (4 : Int32)) = (0 : Int32) then (0 : Int32) else (1 : Int32)))])) (fun t k => ?_) ?_
        · by_cases hd140 : (p4 &&& (4 : Int32)) = (0 : Int32)
          · skip
            rw [(if_pos hd140 : (if (p4 &&& (4 : Int32)) = (0 : Int32) then (0 : Int32) else (1 : Int32)) = (0 : Int32))] at k
            show Steps p.tables e below (T133.setTop (mkF m 111 #[.val (.int p1), .val (.int p2), .val (.int p3), .val (.int p4), .val (.int (1 : Int32)), .val (.int z89), .val (.ref b91), .val (.ref b132), .val (.ref b134), .val .null, .val (.int z137), .val (.int z139), .unset, .unset, .unset, .unset] [(.int (p4 &&& (4 : Int32)))])) _
            refine XS.ifYes X133.here hx rfl (pc0 := 111) (pc' := 118) rfl (hb hby at_111) rfl ((if0 _ _).trans (teq hd140).1) (by decide) (by decide) ?_
            show Steps p.tables e below (T133.setTop (mkF m 118 #[.val (.int p1), .val (.int p2), .val (.int p3), .val (.int p4), .val (.int (1 : Int32)), .val (.int z89), .val (.ref b91), .val (.ref b132), .val (.ref b134), .val .null, .val (.int z137), .val (.int z139), .unset, .unset, .unset, .unset] [])) _
            refine XS.iconst X133.here hx rfl (hb hby at_118) ?_
            show Steps p.tables e below (T133.setTop (mkF m 119 #[.val (.int p1), .val (.int p2), .val (.int p3), .val (.int p4), .val (.int (1 : Int32)), .val (.int z89), .val (.ref b91), .val (.ref b132), .val (.ref b134), .val .null, .val (.int z137), .val (.int z139), .unset, .unset, .unset, .unset] [(.int (0 : Int32))])) _
            exact k
          · skip
            rw [(if_neg hd140 : (if (p4 &&& (4 : Int32)) = (0 : Int32) then (0 : Int32) else (1 : Int32)) = (1 : Int32))] at k
            show Steps p.tables e below (T133.setTop (mkF m 111 #[.val (.int p1), .val (.int p2), .val (.int p3), .val (.int p4), .val (.int (1 : Int32)), .val (.int z89), .val (.ref b91), .val (.ref b132), .val (.ref b134), .val .null, .val (.int z137), .val (.int z139), .unset, .unset, .unset, .unset] [(.int (p4 &&& (4 : Int32)))])) _
            refine XS.ifNo X133.here hx rfl (hb hby at_111) rfl ((if0 _ _).trans (feq hd140).1) ?_
            show Steps p.tables e below (T133.setTop (mkF m 114 #[.val (.int p1), .val (.int p2), .val (.int p3), .val (.int p4), .val (.int (1 : Int32)), .val (.int z89), .val (.ref b91), .val (.ref b132), .val (.ref b134), .val .null, .val (.int z137), .val (.int z139), .unset, .unset, .unset, .unset] [])) _
            refine XS.iconst X133.here hx rfl (hb hby at_114) ?_
            show Steps p.tables e below (T133.setTop (mkF m 115 #[.val (.int p1), .val (.int p2), .val (.int p3), .val (.int p4), .val (.int (1 : Int32)), .val (.int z89), .val (.ref b91), .val (.ref b132), .val (.ref b134), .val .null, .val (.int z137), .val (.int z139), .unset, .unset, .unset, .unset] [(.int (1 : Int32))])) _
            refine XS.goto X133.here hx rfl (pc0 := 115) (pc' := 119) rfl (hb hby at_115) (by decide) (by decide) ?_
            show Steps p.tables e below (T133.setTop (mkF m 119 #[.val (.int p1), .val (.int p2), .val (.int p3), .val (.int p4), .val (.int (1 : Int32)), .val (.int z89), .val (.ref b91), .val (.ref b132), .val (.ref b134), .val .null, .val (.int z137), .val (.int z139), .unset, .unset, .unset, .unset] [(.int (1 : Int32))])) _
            exact k
        show Go p.tables e below T133 (mkF m 119 #[.val (.int p1), .val (.int p2), .val (.int p3), .val (.int p4), .val (.int (1 : Int32)), .val (.int z89), .val (.ref b91), .val (.ref b132), .val (.ref b134), .val .null, .val (.int z137), .val (.int z139), .unset, .unset, .unset, .unset] [(.int (if (p4 &&& (4 : Int32)) = (0 : Int32) then (0 : Int32) else (1 : Int32)))]) _
        obtain ⟨z141, hz141⟩ : ∃ z : Int32, z = (if (p4 &&& (4 : Int32)) = (0 : Int32) then (0 : Int32) else (1 : Int32)) := ⟨_, rfl⟩
        rw [← hz141]
        show Go p.tables e below T133 (mkF m 119 #[.val (.int p1), .val (.int p2), .val (.int p3), .val (.int p4), .val (.int (1 : Int32)), .val (.int z89), .val (.ref b91), .val (.ref b132), .val (.ref b134), .val .null, .val (.int z137), .val (.int z139), .unset, .unset, .unset, .unset] [(.int z141)]) _
        refine go1 (fun _ => XS.istore X133.here hx rfl (hb hby at_119) rfl (l' := #[.val (.int p1), .val (.int p2), .val (.int p3), .val (.int p4), .val (.int (1 : Int32)), .val (.int z89), .val (.ref b91), .val (.ref b132), .val (.ref b134), .val .null, .val (.int z137), .val (.int z139), .val (.int z141), .unset, .unset, .unset]) rfl) ?_
        show Go p.tables e below T133 (mkF m 121 #[.val (.int p1), .val (.int p2), .val (.int p3), .val (.int p4), .val (.int (1 : Int32)), .val (.int z89), .val (.ref b91), .val (.ref b132), .val (.ref b134), .val .null, .val (.int z137), .val (.int z139), .val (.int z141), .unset, .unset, .unset] []) _
        refine go1 (fun _ => XS.iload X133.here hx rfl (hb hby at_121) rfl) ?_
        show Go p.tables e below T133 (mkF m 123 #[.val (.int p1), .val (.int p2), .val (.int p3), .val (.int p4), .val (.int (1 : Int32)), .val (.int z89), .val (.ref b91), .val (.ref b132), .val (.ref b134), .val .null, .val (.int z137), .val (.int z139), .val (.int z141), .unset, .unset, .unset] [(.int (1 : Int32))]) _
        refine go1 (fun _ => XS.ifNo X133.here hx rfl (hb hby at_123) rfl ((if0 _ _).trans (feq (by decide : ¬ ((1 : Int32) = (0 : Int32)))).1)) ?_
        show Go p.tables e below T133 (mkF m 126 #[.val (.int p1), .val (.int p2), .val (.int p3), .val (.int p4), .val (.int (1 : Int32)), .val (.int z89), .val (.ref b91), .val (.ref b132), .val (.ref b134), .val .null, .val (.int z137), .val (.int z139), .val (.int z141), .unset, .unset, .unset] []) _
        refine go1 (fun _ => XS.aload X133.here hx rfl (hb hby at_126) rfl rfl) ?_
        show Go p.tables e below T133 (mkF m 128 #[.val (.int p1), .val (.int p2), .val (.int p3), .val (.int p4), .val (.int (1 : Int32)), .val (.int z89), .val (.ref b91), .val (.ref b132), .val (.ref b134), .val .null, .val (.int z137), .val (.int z139), .val (.int z141), .unset, .unset, .unset] [(.ref b91)]) _
        refine go1 (fun _ => XS.goto X133.here hx rfl (pc0 := 128) (pc' := 132) rfl (hb hby at_128) (by decide) (by decide)) ?_
        show Go p.tables e below T133 (mkF m 132 #[.val (.int p1), .val (.int p2), .val (.int p3), .val (.int p4), .val (.int (1 : Int32)), .val (.int z89), .val (.ref b91), .val (.ref b132), .val (.ref b134), .val .null, .val (.int z137), .val (.int z139), .val (.int z141), .unset, .unset, .unset] [(.ref b91)]) _
        refine go1 (fun _ => XS.astore X133.here hx rfl (hb hby at_132) rfl rfl (l' := #[.val (.int p1), .val (.int p2), .val (.int p3), .val (.int p4), .val (.int (1 : Int32)), .val (.int z89), .val (.ref b91), .val (.ref b132), .val (.ref b134), .val .null, .val (.int z137), .val (.int z139), .val (.int z141), .val (.ref b91), .unset, .unset]) rfl) ?_
        show Go p.tables e below T133 (mkF m 134 #[.val (.int p1), .val (.int p2), .val (.int p3), .val (.int p4), .val (.int (1 : Int32)), .val (.int z89), .val (.ref b91), .val (.ref b132), .val (.ref b134), .val .null, .val (.int z137), .val (.int z139), .val (.int z141), .val (.ref b91), .unset, .unset] []) _
        obtain ⟨T142, h142, X142, e142, E142, A142, D142, -, st142⟩ := newO X133 hx hZ133 hown133 (hw _ (List.mem_of_getElem? (i := 12) rfl)) (hw _ (List.mem_of_getElem? (i := 13) rfl)) (hw _ (List.mem_of_getElem? (i := 14) rfl)) rfl (g := (mkF m 134 #[.val (.int p1), .val (.int p2), .val (.int p3), .val (.int p4), .val (.int (1 : Int32)), .val (.int z89), .val (.ref b91), .val (.ref b132), .val (.ref b134), .val .null, .val (.int z137), .val (.int z139), .val (.int z141), .val (.ref b91), .unset, .unset] [])) rfl (hb hby at_134) (by decide) (by decide)
        obtain ⟨b142, g142⟩ : ∃ z, z = T133.heap.size := ⟨_, rfl⟩
        rw [← g142] at A142 D142 st142
        have g_b142 : n0 ≤ b142 := Nat.le_trans (Nat.le_trans (Nat.le_trans (Nat.le_trans Z0 K90.1) E132.1) K133.1) (Nat.le_of_eq g142.symm)
        have F_name_b142 : Fld Z h142 b142 "com/example/enrout/enrout/broker/cli/Option" "name" "Ljava/lang/String;" .null := D142 (Or.inr (hw _ (List.mem_of_getElem? (i := 27) rfl))) (ty := (.object "java/lang/String")) (by decide)
        have F_value_b142 : Fld Z h142 b142 "com/example/enrout/enrout/broker/cli/Option" "value" "Ljava/lang/String;" .null := D142 (Or.inr (hw _ (List.mem_of_getElem? (i := 29) rfl))) (ty := (.object "java/lang/String")) (by decide)
        have F_help_b142 : Fld Z h142 b142 "com/example/enrout/enrout/broker/cli/Option" "help" "Ljava/lang/String;" .null := D142 (Or.inr (hw _ (List.mem_of_getElem? (i := 31) rfl))) (ty := (.object "java/lang/String")) (by decide)
        have F_defaultValue_b142 : Fld Z h142 b142 "com/example/enrout/enrout/broker/cli/Option" "defaultValue" "Ljava/lang/String;" .null := D142 (Or.inr (hw _ (List.mem_of_getElem? (i := 33) rfl))) (ty := (.object "java/lang/String")) (by decide)
        have F_required_b142 : Fld Z h142 b142 "com/example/enrout/enrout/broker/cli/Option" "required" "Z" (.int (0 : Int32)) := D142 (Or.inr (hw _ (List.mem_of_getElem? (i := 35) rfl))) (ty := .boolean) (by decide)
        have F_repeatable_b142 : Fld Z h142 b142 "com/example/enrout/enrout/broker/cli/Option" "repeatable" "Z" (.int (0 : Int32)) := D142 (Or.inr (hw _ (List.mem_of_getElem? (i := 37) rfl))) (ty := .boolean) (by decide)
        have F_several_b142 : Fld Z h142 b142 "com/example/enrout/enrout/broker/cli/Option" "several" "Z" (.int (0 : Int32)) := D142 (Or.inr (hw _ (List.mem_of_getElem? (i := 39) rfl))) (ty := .boolean) (by decide)
        refine go1 st142 ?_
        show Go p.tables e below T142 (mkF m 137 #[.val (.int p1), .val (.int p2), .val (.int p3), .val (.int p4), .val (.int (1 : Int32)), .val (.int z89), .val (.ref b91), .val (.ref b132), .val (.ref b134), .val .null, .val (.int z137), .val (.int z139), .val (.int z141), .val (.ref b91), .unset, .unset] [(.ref b142)]) _
        refine go1 (fun _ => XS.dup X142.here hx rfl (hb hby at_137) rfl rfl) ?_
        show Go p.tables e below T142 (mkF m 138 #[.val (.int p1), .val (.int p2), .val (.int p3), .val (.int p4), .val (.int (1 : Int32)), .val (.int z89), .val (.ref b91), .val (.ref b132), .val (.ref b134), .val .null, .val (.int z137), .val (.int z139), .val (.int z141), .val (.ref b91), .unset, .unset] [(.ref b142), (.ref b142)]) _
        refine go1 (fun _ => XS.aload X142.here hx rfl (hb hby at_138) rfl rfl) ?_
        show Go p.tables e below T142 (mkF m 140 #[.val (.int p1), .val (.int p2), .val (.int p3), .val (.int p4), .val (.int (1 : Int32)), .val (.int z89), .val (.ref b91), .val (.ref b132), .val (.ref b134), .val .null, .val (.int z137), .val (.int z139), .val (.int z141), .val (.ref b91), .unset, .unset] [(.ref b132), (.ref b142), (.ref b142)]) _
        refine go1 (fun _ => XS.aload X142.here hx rfl (hb hby at_140) rfl rfl) ?_
        show Go p.tables e below T142 (mkF m 142 #[.val (.int p1), .val (.int p2), .val (.int p3), .val (.int p4), .val (.int (1 : Int32)), .val (.int z89), .val (.ref b91), .val (.ref b132), .val (.ref b134), .val .null, .val (.int z137), .val (.int z139), .val (.int z141), .val (.ref b91), .unset, .unset] [(.ref b91), (.ref b132), (.ref b142), (.ref b142)]) _
        refine go1 (fun _ => XS.aload X142.here hx rfl (hb hby at_142) rfl rfl) ?_
        show Go p.tables e below T142 (mkF m 144 #[.val (.int p1), .val (.int p2), .val (.int p3), .val (.int p4), .val (.int (1 : Int32)), .val (.int z89), .val (.ref b91), .val (.ref b132), .val (.ref b134), .val .null, .val (.int z137), .val (.int z139), .val (.int z141), .val (.ref b91), .unset, .unset] [(.ref b134), (.ref b91), (.ref b132), (.ref b142), (.ref b142)]) _
        refine go1 (fun _ => XS.aload X142.here hx rfl (hb hby at_144) rfl rfl) ?_
        show Go p.tables e below T142 (mkF m 146 #[.val (.int p1), .val (.int p2), .val (.int p3), .val (.int p4), .val (.int (1 : Int32)), .val (.int z89), .val (.ref b91), .val (.ref b132), .val (.ref b134), .val .null, .val (.int z137), .val (.int z139), .val (.int z141), .val (.ref b91), .unset, .unset] [.null, (.ref b134), (.ref b91), (.ref b132), (.ref b142), (.ref b142)]) _
        refine go1 (fun _ => XS.iload X142.here hx rfl (hb hby at_146) rfl) ?_
        show Go p.tables e below T142 (mkF m 148 #[.val (.int p1), .val (.int p2), .val (.int p3), .val (.int p4), .val (.int (1 : Int32)), .val (.int z89), .val (.ref b91), .val (.ref b132), .val (.ref b134), .val .null, .val (.int z137), .val (.int z139), .val (.int z141), .val (.ref b91), .unset, .unset] [(.int z137), .null, (.ref b134), (.ref b91), (.ref b132), (.ref b142), (.ref b142)]) _
        refine go1 (fun _ => XS.iload X142.here hx rfl (hb hby at_148) rfl) ?_
        show Go p.tables e below T142 (mkF m 150 #[.val (.int p1), .val (.int p2), .val (.int p3), .val (.int p4), .val (.int (1 : Int32)), .val (.int z89), .val (.ref b91), .val (.ref b132), .val (.ref b134), .val .null, .val (.int z137), .val (.int z139), .val (.int z141), .val (.ref b91), .unset, .unset] [(.int z139), (.int z137), .null, (.ref b134), (.ref b91), (.ref b132), (.ref b142), (.ref b142)]) _
        refine go1 (fun _ => XS.iload X142.here hx rfl (hb hby at_150) rfl) ?_
        show Go p.tables e below T142 (mkF m 152 #[.val (.int p1), .val (.int p2), .val (.int p3), .val (.int p4), .val (.int (1 : Int32)), .val (.int z89), .val (.ref b91), .val (.ref b132), .val (.ref b134), .val .null, .val (.int z137), .val (.int z139), .val (.int z141), .val (.ref b91), .unset, .unset] [(.int z141), (.int z139), (.int z137), .null, (.ref b134), (.ref b91), (.ref b132), (.ref b142), (.ref b142)]) _
        obtain ⟨_, _, ⟨T143, L143, k143, n143⟩, -, X143, ⟨Lc143, hQ143, l143, y143, z143⟩, st143⟩ := X142.specialBack hx (y := (⟨"com/example/enrout/enrout/broker/cli/Option", "<init>", "(Ljava/lang/String;Ljava/lang/String;Ljava/lang/String;Ljava/lang/String;ZZZ)V"⟩ : MethodName)) rfl hown133 (mvT hZ133 (hw _ (List.mem_of_getElem? (i := 15) rfl))) (mvT hZ133 (hw _ (List.mem_of_getElem? (i := 16) rfl))) (mvT hZ133 (hw _ (List.mem_of_getElem? (i := 17) rfl))) (by decide) (backOf (W := 1) (rm2 l Z a0 hw [] b142 (.ref b132) (.ref b91) (.ref b134) .null z137 z139 z141 h142 n0 (Nat.le_trans (Nat.le_trans (Nat.le_trans (Nat.le_trans Z0 K90.1) E132.1) K133.1) E142.1) F_name_b142 F_value_b142 F_help_b142 F_defaultValue_b142 F_required_b142 F_repeatable_b142 F_several_b142 A142 g_b142 (by first | assumption | decide | rfl) (by first | assumption | decide | rfl) (by first | assumption | decide | rfl) (by first | assumption | decide | rfl)) hZ133 (hw _ (List.mem_of_getElem? (i := 17) rfl)) (hw _ (List.mem_of_getElem? (i := 14) rfl)) (by decide) (by decide)) (g := (mkF m 152 #[.val (.int p1), .val (.int p2), .val (.int p3), .val (.int p4), .val (.int (1 : Int32)), .val (.int z89), .val (.ref b91), .val (.ref b132), .val (.ref b134), .val .null, .val (.int z137), .val (.int z139), .val (.int z141), .val (.ref b91), .unset, .unset] [(.int z141), (.int z139), (.int z137), .null, (.ref b134), (.ref b91), (.ref b132), (.ref b142), (.ref b142)])) rfl (by rw [hml]; rfl) (Steps.refl _) (a := b142) (argsL := [(.ref b132), (.ref b91), (.ref b134), .null, (.int z137), (.int z139), (.int z141)]) (rest := [(.ref b142)]) (lenOf pd0_1 rfl) rfl (by show 2 * 0 + _ ≤ _; exact Nat.le_of_eq rfl) (hb hby at_152) (fun _ _ => ⟨rfl, e142, (by decide : 9 + 0 ≤ _), (by decide : 39 + 0 ≤ _)⟩)
        dsimp only [Pt.U, Pt.locs, Pt.cells, Pt.slots] at X143 l143 y143 z143 st143 hQ143
        subst l143 y143 z143
        obtain ⟨rfl, N143q, K143, G143_0, G143_1⟩ := hQ143
        have N143 := Fr.app N133 N143q
        refine goT st143 ?_
        show Go p.tables e below T143 (mkF m 155 #[.val (.int p1), .val (.int p2), .val (.int p3), .val (.int p4), .val (.int (1 : Int32)), .val (.int z89), .val (.ref b91), .val (.ref b132), .val (.ref b134), .val .null, .val (.int z137), .val (.int z139), .val (.int z141), .val (.ref b91), .unset, .unset] [(.ref b142)]) _
        refine go1 (fun _ => XS.astore X143.here hx rfl (hb hby at_155) rfl rfl (l' := #[.val (.int p1), .val (.int p2), .val (.int p3), .val (.int p4), .val (.int (1 : Int32)), .val (.int z89), .val (.ref b91), .val (.ref b132), .val (.ref b134), .val .null, .val (.int z137), .val (.int z139), .val (.int z141), .val (.ref b91), .val (.ref b142), .unset]) rfl) ?_
        show Go p.tables e below T143 (mkF m 157 #[.val (.int p1), .val (.int p2), .val (.int p3), .val (.int p4), .val (.int (1 : Int32)), .val (.int z89), .val (.ref b91), .val (.ref b132), .val (.ref b134), .val .null, .val (.int z137), .val (.int z139), .val (.int z141), .val (.ref b91), .val (.ref b142), .unset] []) _
        refine go1 (fun _ => XS.aload X143.here hx rfl (hb hby at_157) rfl rfl) ?_
        show Go p.tables e below T143 (mkF m 159 #[.val (.int p1), .val (.int p2), .val (.int p3), .val (.int p4), .val (.int (1 : Int32)), .val (.int z89), .val (.ref b91), .val (.ref b132), .val (.ref b134), .val .null, .val (.int z137), .val (.int z139), .val (.int z141), .val (.ref b91), .val (.ref b142), .unset] [(.ref b142)]) _
        obtain ⟨cq144, kq144, q144a, q144b, q144c⟩ := isOf hZ133 rfl G143_0
        obtain ⟨_, _, ⟨T144, L144, k144, n144⟩, -, X144, ⟨Lc144, hQ144, l144, y144, z144⟩, st144⟩ := X143.virtualBack hx (y := (⟨"com/example/enrout/enrout/broker/cli/Option", "isFlag", "()Z"⟩ : MethodName)) (z := (⟨"com/example/enrout/enrout/broker/cli/Option", "isFlag", "()Z"⟩ : MethodName)) hown133 (mvT hZ133 (hw _ (List.mem_of_getElem? (i := 40) rfl))) (mvT hZ133 (hw _ (List.mem_of_getElem? (i := 41) rfl))) (notFace_of_selects (args := #[]) (mvT hZ133 (hw _ (List.mem_of_getElem? (i := 43) rfl)))) (mvT hZ133 (hw _ (List.mem_of_getElem? (i := 43) rfl))) (mvT hZ133 (hw _ (List.mem_of_getElem? (i := 42) rfl))) (by decide) (backOf (W := 0) (rmisb l Z a0 hw [] b142 b91 T143.heap n0 (Nat.le_trans (Nat.le_trans (Nat.le_trans (Nat.le_trans (Nat.le_trans Z0 K90.1) E132.1) K133.1) E142.1) K143.1) G143_1) hZ133 (hw _ (List.mem_of_getElem? (i := 44) rfl)) (hw _ (List.mem_of_getElem? (i := 14) rfl)) (by decide) (by decide)) q144a q144c (g := (mkF m 159 #[.val (.int p1), .val (.int p2), .val (.int p3), .val (.int p4), .val (.int (1 : Int32)), .val (.int z89), .val (.ref b91), .val (.ref b132), .val (.ref b134), .val .null, .val (.int z137), .val (.int z139), .val (.int z141), .val (.ref b91), .val (.ref b142), .unset] [(.ref b142)])) rfl (by rw [hml]; rfl) (Steps.refl _) (argsL := []) (rest := []) (lenOf pd0_2 rfl) rfl (by show 2 * 0 + _ ≤ _; exact Nat.le_of_eq rfl) (hb hby at_159) (fun _ _ => ⟨rfl, rfl, (by decide : 9 + 0 ≤ _), (by decide : 39 + 0 ≤ _)⟩)
        dsimp only [Pt.U, Pt.locs, Pt.cells, Pt.slots] at X144 l144 y144 z144 st144 hQ144
        subst l144 y144 z144
        obtain ⟨rfl, N144q, e144⟩ := hQ144
        have N144 := Fr.app N143 N144q
        refine goT st144 ?_
        show Go p.tables e below T144 (mkF m 162 #[.val (.int p1), .val (.int p2), .val (.int p3), .val (.int p4), .val (.int (1 : Int32)), .val (.int z89), .val (.ref b91), .val (.ref b132), .val (.ref b134), .val .null, .val (.int z137), .val (.int z139), .val (.int z141), .val (.ref b91), .val (.ref b142), .unset] [(.int (0 : Int32))]) _
        refine go1 (fun _ => XS.iload X144.here hx rfl (hb hby at_162) rfl) ?_
        show Go p.tables e below T144 (mkF m 164 #[.val (.int p1), .val (.int p2), .val (.int p3), .val (.int p4), .val (.int (1 : Int32)), .val (.int z89), .val (.ref b91), .val (.ref b132), .val (.ref b134), .val .null, .val (.int z137), .val (.int z139), .val (.int z141), .val (.ref b91), .val (.ref b142), .unset] [(.int (1 : Int32)), (.int (0 : Int32))]) _
        refine go1 (fun _ => XS.ifYes X144.here hx rfl (pc0 := 164) (pc' := 171) rfl (hb hby at_164) rfl ((if0 _ _).trans (feq (by decide : ¬ ((1 : Int32) = (0 : Int32)))).2) (by decide) (by decide)) ?_
        show Go p.tables e below T144 (mkF m 171 #[.val (.int p1), .val (.int p2), .val (.int p3), .val (.int p4), .val (.int (1 : Int32)), .val (.int z89), .val (.ref b91), .val (.ref b132), .val (.ref b134), .val .null, .val (.int z137), .val (.int z139), .val (.int z141), .val (.ref b91), .val (.ref b142), .unset] [(.int (0 : Int32))]) _
        refine go1 (fun _ => XS.iconst X144.here hx rfl (hb hby at_171)) ?_
        show Go p.tables e below T144 (mkF m 172 #[.val (.int p1), .val (.int p2), .val (.int p3), .val (.int p4), .val (.int (1 : Int32)), .val (.int z89), .val (.ref b91), .val (.ref b132), .val (.ref b134), .val .null, .val (.int z137), .val (.int z139), .val (.int z141), .val (.ref b91), .val (.ref b142), .unset] [(.int (0 : Int32)), (.int (0 : Int32))]) _
        refine go1 (fun _ => XS.icmpNo X144.here hx rfl (hb hby at_172) rfl (teq (by decide : (0 : Int32) = (0 : Int32))).2) ?_
        show Go p.tables e below T144 (mkF m 175 #[.val (.int p1), .val (.int p2), .val (.int p3), .val (.int p4), .val (.int (1 : Int32)), .val (.int z89), .val (.ref b91), .val (.ref b132), .val (.ref b134), .val .null, .val (.int z137), .val (.int z139), .val (.int z141), .val (.ref b91), .val (.ref b142), .unset] []) _
        refine go1 (fun _ => XS.iconst X144.here hx rfl (hb hby at_175)) ?_
        show Go p.tables e below T144 (mkF m 176 #[.val (.int p1), .val (.int p2), .val (.int p3), .val (.int p4), .val (.int (1 : Int32)), .val (.int z89), .val (.ref b91), .val (.ref b132), .val (.ref b134), .val .null, .val (.int z137), .val (.int z139), .val (.int z141), .val (.ref b91), .val (.ref b142), .unset] [(.int (1 : Int32))]) _
        refine go1 (fun _ => XS.goto X144.here hx rfl (pc0 := 176) (pc' := 180) rfl (hb hby at_176) (by decide) (by decide)) ?_
        show Go p.tables e below T144 (mkF m 180 #[.val (.int p1), .val (.int p2), .val (.int p3), .val (.int p4), .val (.int (1 : Int32)), .val (.int z89), .val (.ref b91), .val (.ref b132), .val (.ref b134), .val .null, .val (.int z137), .val (.int z139), .val (.int z141), .val (.ref b91), .val (.ref b142), .unset] [(.int (1 : Int32))]) _
        refine go1 (fun _ => XS.istore X144.here hx rfl (hb hby at_180) rfl (l' := #[.val (.int p1), .val (.int p2), .val (.int p3), .val (.int p4), .val (.int (1 : Int32)), .val (.int z89), .val (.ref b91), .val (.ref b132), .val (.ref b134), .val .null, .val (.int z137), .val (.int z139), .val (.int z141), .val (.ref b91), .val (.ref b142), .val (.int (1 : Int32))]) rfl) ?_
        show Go p.tables e below T144 (mkF m 182 #[.val (.int p1), .val (.int p2), .val (.int p3), .val (.int p4), .val (.int (1 : Int32)), .val (.int z89), .val (.ref b91), .val (.ref b132), .val (.ref b134), .val .null, .val (.int z137), .val (.int z139), .val (.int z141), .val (.ref b91), .val (.ref b142), .val (.int (1 : Int32))] []) _
        refine go1 (fun _ => XS.iload X144.here hx rfl (hb hby at_182) rfl) ?_
        show Go p.tables e below T144 (mkF m 184 #[.val (.int p1), .val (.int p2), .val (.int p3), .val (.int p4), .val (.int (1 : Int32)), .val (.int z89), .val (.ref b91), .val (.ref b132), .val (.ref b134), .val .null, .val (.int z137), .val (.int z139), .val (.int z141), .val (.ref b91), .val (.ref b142), .val (.int (1 : Int32))] [(.int (1 : Int32))]) _
        refine go1 (fun _ => XS.ifNo X144.here hx rfl (hb hby at_184) rfl ((if0 _ _).trans (feq (by decide : ¬ ((1 : Int32) = (0 : Int32)))).1)) ?_
        show Go p.tables e below T144 (mkF m 187 #[.val (.int p1), .val (.int p2), .val (.int p3), .val (.int p4), .val (.int (1 : Int32)), .val (.int z89), .val (.ref b91), .val (.ref b132), .val (.ref b134), .val .null, .val (.int z137), .val (.int z139), .val (.int z141), .val (.ref b91), .val (.ref b142), .val (.int (1 : Int32))] []) _
        refine go1 (fun _ => XS.aload X144.here hx rfl (hb hby at_187) rfl rfl) ?_
        show Go p.tables e below T144 (mkF m 189 #[.val (.int p1), .val (.int p2), .val (.int p3), .val (.int p4), .val (.int (1 : Int32)), .val (.int z89), .val (.ref b91), .val (.ref b132), .val (.ref b134), .val .null, .val (.int z137), .val (.int z139), .val (.int z141), .val (.ref b91), .val (.ref b142), .val (.int (1 : Int32))] [(.ref b132)]) _
        refine go1 (fun _ => XS.aload X144.here hx rfl (hb hby at_189) rfl rfl) ?_
        show Go p.tables e below T144 (mkF m 191 #[.val (.int p1), .val (.int p2), .val (.int p3), .val (.int p4), .val (.int (1 : Int32)), .val (.int z89), .val (.ref b91), .val (.ref b132), .val (.ref b134), .val .null, .val (.int z137), .val (.int z139), .val (.int z141), .val (.ref b91), .val (.ref b142), .val (.int (1 : Int32))] [(.ref b134), (.ref b132)]) _
        obtain ⟨_, _, ⟨T145, L145, k145, n145⟩, -, X145, ⟨Lc145, hQ145, l145, y145, z145⟩, st145⟩ := Jvm.LawKit.callS X144 hx (y := (⟨"com/example/enrout/enrout/broker/cli/Option", "flag", "(Ljava/lang/String;Ljava/lang/String;)Lcom/example/enrout/enrout/broker/cli/Option;"⟩ : MethodName)) hown133 (mvT hZ133 (hw _ (List.mem_of_getElem? (i := 45) rfl))) (mvT hZ133 (hw _ (List.mem_of_getElem? (i := 46) rfl))) (mvT hZ133 (hw _ (List.mem_of_getElem? (i := 14) rfl))) (mvT hZ133 (hw _ (List.mem_of_getElem? (i := 47) rfl))) (by decide) (backOf (W := 0) (rm6 l Z a0 hw [] b132 b134 T143.heap n0 (Nat.le_trans (Nat.le_trans (Nat.le_trans (Nat.le_trans (Nat.le_trans Z0 K90.1) E132.1) K133.1) E142.1) K143.1) ) hZ133 (hw _ (List.mem_of_getElem? (i := 47) rfl)) (hw _ (List.mem_of_getElem? (i := 14) rfl)) (by decide) (by decide)) (g := (mkF m 191 #[.val (.int p1), .val (.int p2), .val (.int p3), .val (.int p4), .val (.int (1 : Int32)), .val (.int z89), .val (.ref b91), .val (.ref b132), .val (.ref b134), .val .null, .val (.int z137), .val (.int z139), .val (.int z141), .val (.ref b91), .val (.ref b142), .val (.int (1 : Int32))] [(.ref b134), (.ref b132)])) rfl (by rw [hml]; rfl) (argsL := [(.ref b132), (.ref b134)]) (rest := []) (lenOf pd0_3 rfl) rfl (by show 2 * 0 + _ ≤ _; exact Nat.le_of_eq rfl) (hb hby at_191) (fun _ _ => ⟨rfl, e144, (by decide : 9 + 1 ≤ _), (by decide : 39 + 7 ≤ _)⟩)
        dsimp only [Pt.U, Pt.locs, Pt.cells, Pt.slots] at X145 l145 y145 z145 st145 hQ145
        subst l145 y145 z145
        obtain ⟨b146, rfl, N145q, K145, G145_0, G145_1⟩ := hQ145
        have N145 := Fr.app N144 N145q
        refine go1 st145 ?_
        show Go p.tables e below T145 (mkF m 194 #[.val (.int p1), .val (.int p2), .val (.int p3), .val (.int p4), .val (.int (1 : Int32)), .val (.int z89), .val (.ref b91), .val (.ref b132), .val (.ref b134), .val .null, .val (.int z137), .val (.int z139), .val (.int z141), .val (.ref b91), .val (.ref b142), .val (.int (1 : Int32))] [(.ref b146)]) _
        obtain ⟨cq147, kq147, q147a, q147b, q147c⟩ := isOf hZ133 rfl G145_0
        obtain ⟨_, _, ⟨T147, L147, k147, n147⟩, -, X147, ⟨Lc147, hQ147, l147, y147, z147⟩, st147⟩ := X145.virtualBack hx (y := (⟨"com/example/enrout/enrout/broker/cli/Option", "isFlag", "()Z"⟩ : MethodName)) (z := (⟨"com/example/enrout/enrout/broker/cli/Option", "isFlag", "()Z"⟩ : MethodName)) hown133 (mvT hZ133 (hw _ (List.mem_of_getElem? (i := 40) rfl))) (mvT hZ133 (hw _ (List.mem_of_getElem? (i := 41) rfl))) (notFace_of_selects (args := #[]) (mvT hZ133 (hw _ (List.mem_of_getElem? (i := 43) rfl)))) (mvT hZ133 (hw _ (List.mem_of_getElem? (i := 43) rfl))) (mvT hZ133 (hw _ (List.mem_of_getElem? (i := 42) rfl))) (by decide) (backOf (W := 0) (rmisa l Z a0 hw [] b146 T145.heap n0 (Nat.le_trans (Nat.le_trans (Nat.le_trans (Nat.le_trans (Nat.le_trans (Nat.le_trans Z0 K90.1) E132.1) K133.1) E142.1) K143.1) K145.1) G145_1) hZ133 (hw _ (List.mem_of_getElem? (i := 44) rfl)) (hw _ (List.mem_of_getElem? (i := 14) rfl)) (by decide) (by decide)) q147a q147c (g := (mkF m 194 #[.val (.int p1), .val (.int p2), .val (.int p3), .val (.int p4), .val (.int (1 : Int32)), .val (.int z89), .val (.ref b91), .val (.ref b132), .val (.ref b134), .val .null, .val (.int z137), .val (.int z139), .val (.int z141), .val (.ref b91), .val (.ref b142), .val (.int (1 : Int32))] [(.ref b146)])) rfl (by rw [hml]; rfl) (Steps.refl _) (argsL := []) (rest := []) (lenOf pd0_2 rfl) rfl (by show 2 * 0 + _ ≤ _; exact Nat.le_of_eq rfl) (hb hby at_194) (fun _ _ => ⟨rfl, rfl, (by decide : 10 + 0 ≤ _), (by decide : 46 + 0 ≤ _)⟩)
        dsimp only [Pt.U, Pt.locs, Pt.cells, Pt.slots] at X147 l147 y147 z147 st147 hQ147
        subst l147 y147 z147
        obtain ⟨rfl, N147q, e147⟩ := hQ147
        have N147 := Fr.app N145 N147q
        refine goT st147 ?_
        show Go p.tables e below T147 (mkF m 197 #[.val (.int p1), .val (.int p2), .val (.int p3), .val (.int p4), .val (.int (1 : Int32)), .val (.int z89), .val (.ref b91), .val (.ref b132), .val (.ref b134), .val .null, .val (.int z137), .val (.int z139), .val (.int z141), .val (.ref b91), .val (.ref b142), .val (.int (1 : Int32))] [(.int (1 : Int32))]) _
        refine go1 (fun _ => XS.ifNo X147.here hx rfl (hb hby at_197) rfl ((if0 _ _).trans (feq (by decide : ¬ ((1 : Int32) = (0 : Int32)))).1)) ?_
        show Go p.tables e below T147 (mkF m 200 #[.val (.int p1), .val (.int p2), .val (.int p3), .val (.int p4), .val (.int (1 : Int32)), .val (.int z89), .val (.ref b91), .val (.ref b132), .val (.ref b134), .val .null, .val (.int z137), .val (.int z139), .val (.int z141), .val (.ref b91), .val (.ref b142), .val (.int (1 : Int32))] []) _
        refine go1 (fun _ => XS.iconst X147.here hx rfl (hb hby at_200)) ?_
        show Go p.tables e below T147 (mkF m 201 #[.val (.int p1), .val (.int p2), .val (.int p3), .val (.int p4), .val (.int (1 : Int32)), .val (.int z89), .val (.ref b91), .val (.ref b132), .val (.ref b134), .val .null, .val (.int z137), .val (.int z139), .val (.int z141), .val (.ref b91), .val (.ref b142), .val (.int (1 : Int32))] [(.int (1 : Int32))]) _
        refine go1 (fun _ => XS.goto X147.here hx rfl (pc0 := 201) (pc' := 205) rfl (hb hby at_201) (by decide) (by decide)) ?_
        show Go p.tables e below T147 (mkF m 205 #[.val (.int p1), .val (.int p2), .val (.int p3), .val (.int p4), .val (.int (1 : Int32)), .val (.int z89), .val (.ref b91), .val (.ref b132), .val (.ref b134), .val .null, .val (.int z137), .val (.int z139), .val (.int z141), .val (.ref b91), .val (.ref b142), .val (.int (1 : Int32))] [(.int (1 : Int32))]) _
        refine go1 (fun _ => XS.istore X147.here hx rfl (hb hby at_205) rfl (l' := #[.val (.int p1), .val (.int p2), .val (.int p3), .val (.int p4), .val (.int (1 : Int32)), .val (.int z89), .val (.ref b91), .val (.ref b132), .val (.ref b134), .val .null, .val (.int z137), .val (.int z139), .val (.int z141), .val (.ref b91), .val (.ref b142), .val (.int (1 : Int32))]) rfl) ?_
        show Go p.tables e below T147 (mkF m 207 #[.val (.int p1), .val (.int p2), .val (.int p3), .val (.int p4), .val (.int (1 : Int32)), .val (.int z89), .val (.ref b91), .val (.ref b132), .val (.ref b134), .val .null, .val (.int z137), .val (.int z139), .val (.int z141), .val (.ref b91), .val (.ref b142), .val (.int (1 : Int32))] []) _
        refine go1 (fun _ => XS.iload X147.here hx rfl (hb hby at_207) rfl) ?_
        show Go p.tables e below T147 (mkF m 209 #[.val (.int p1), .val (.int p2), .val (.int p3), .val (.int p4), .val (.int (1 : Int32)), .val (.int z89), .val (.ref b91), .val (.ref b132), .val (.ref b134), .val .null, .val (.int z137), .val (.int z139), .val (.int z141), .val (.ref b91), .val (.ref b142), .val (.int (1 : Int32))] [(.int (1 : Int32))]) _
        refine go1 (fun _ => XS.ifNo X147.here hx rfl (hb hby at_209) rfl ((if0 _ _).trans (feq (by decide : ¬ ((1 : Int32) = (0 : Int32)))).1)) ?_
        show Go p.tables e below T147 (mkF m 212 #[.val (.int p1), .val (.int p2), .val (.int p3), .val (.int p4), .val (.int (1 : Int32)), .val (.int z89), .val (.ref b91), .val (.ref b132), .val (.ref b134), .val .null, .val (.int z137), .val (.int z139), .val (.int z141), .val (.ref b91), .val (.ref b142), .val (.int (1 : Int32))] []) _
        refine go1 (fun _ => XS.aload X147.here hx rfl (hb hby at_212) rfl rfl) ?_
        show Go p.tables e below T147 (mkF m 214 #[.val (.int p1), .val (.int p2), .val (.int p3), .val (.int p4), .val (.int (1 : Int32)), .val (.int z89), .val (.ref b91), .val (.ref b132), .val (.ref b134), .val .null, .val (.int z137), .val (.int z139), .val (.int z141), .val (.ref b91), .val (.ref b142), .val (.int (1 : Int32))] [(.ref b91)]) _
        refine go1 (fun _ => XS.aload X147.here hx rfl (hb hby at_214) rfl rfl) ?_
        show Go p.tables e below T147 (mkF m 216 #[.val (.int p1), .val (.int p2), .val (.int p3), .val (.int p4), .val (.int (1 : Int32)), .val (.int z89), .val (.ref b91), .val (.ref b132), .val (.ref b134), .val .null, .val (.int z137), .val (.int z139), .val (.int z141), .val (.ref b91), .val (.ref b142), .val (.int (1 : Int32))] [(.ref b134), (.ref b91)]) _
        obtain ⟨_, _, ⟨T148, L148, k148, n148⟩, -, X148, ⟨Lc148, hQ148, l148, y148, z148⟩, st148⟩ := Jvm.LawKit.callS X147 hx (y := (⟨"com/example/enrout/enrout/broker/cli/Option", "operand", "(Ljava/lang/String;Ljava/lang/String;)Lcom/example/enrout/enrout/broker/cli/Option;"⟩ : MethodName)) hown133 (mvT hZ133 (hw _ (List.mem_of_getElem? (i := 50) rfl))) (mvT hZ133 (hw _ (List.mem_of_getElem? (i := 51) rfl))) (mvT hZ133 (hw _ (List.mem_of_getElem? (i := 14) rfl))) (mvT hZ133 (hw _ (List.mem_of_getElem? (i := 52) rfl))) (by decide) (backOf (W := 0) (rm7 l Z a0 hw [] b91 b134 T145.heap n0 (Nat.le_trans (Nat.le_trans (Nat.le_trans (Nat.le_trans (Nat.le_trans (Nat.le_trans Z0 K90.1) E132.1) K133.1) E142.1) K143.1) K145.1) ) hZ133 (hw _ (List.mem_of_getElem? (i := 52) rfl)) (hw _ (List.mem_of_getElem? (i := 14) rfl)) (by decide) (by decide)) (g := (mkF m 216 #[.val (.int p1), .val (.int p2), .val (.int p3), .val (.int p4), .val (.int (1 : Int32)), .val (.int z89), .val (.ref b91), .val (.ref b132), .val (.ref b134), .val .null, .val (.int z137), .val (.int z139), .val (.int z141), .val (.ref b91), .val (.ref b142), .val (.int (1 : Int32))] [(.ref b134), (.ref b91)])) rfl (by rw [hml]; rfl) (argsL := [(.ref b91), (.ref b134)]) (rest := []) (lenOf pd0_3 rfl) rfl (by show 2 * 0 + _ ≤ _; exact Nat.le_of_eq rfl) (hb hby at_216) (fun _ _ => ⟨rfl, e147, (by decide : 10 + 1 ≤ _), (by decide : 46 + 7 ≤ _)⟩)
        dsimp only [Pt.U, Pt.locs, Pt.cells, Pt.slots] at X148 l148 y148 z148 st148 hQ148
        subst l148 y148 z148
        obtain ⟨b149, rfl, N148q, K148, G148_0, G148_1⟩ := hQ148
        have N148 := Fr.app N147 N148q
        refine go1 st148 ?_
        show Go p.tables e below T148 (mkF m 219 #[.val (.int p1), .val (.int p2), .val (.int p3), .val (.int p4), .val (.int (1 : Int32)), .val (.int z89), .val (.ref b91), .val (.ref b132), .val (.ref b134), .val .null, .val (.int z137), .val (.int z139), .val (.int z141), .val (.ref b91), .val (.ref b142), .val (.int (1 : Int32))] [(.ref b149)]) _
        obtain ⟨cq150, kq150, q150a, q150b, q150c⟩ := isOf hZ133 rfl G148_0
        obtain ⟨_, _, ⟨T150, L150, k150, n150⟩, -, X150, ⟨Lc150, hQ150, l150, y150, z150⟩, st150⟩ := X148.virtualBack hx (y := (⟨"com/example/enrout/enrout/broker/cli/Option", "isFlag", "()Z"⟩ : MethodName)) (z := (⟨"com/example/enrout/enrout/broker/cli/Option", "isFlag", "()Z"⟩ : MethodName)) hown133 (mvT hZ133 (hw _ (List.mem_of_getElem? (i := 40) rfl))) (mvT hZ133 (hw _ (List.mem_of_getElem? (i := 41) rfl))) (notFace_of_selects (args := #[]) (mvT hZ133 (hw _ (List.mem_of_getElem? (i := 43) rfl)))) (mvT hZ133 (hw _ (List.mem_of_getElem? (i := 43) rfl))) (mvT hZ133 (hw _ (List.mem_of_getElem? (i := 42) rfl))) (by decide) (backOf (W := 0) (rmisb l Z a0 hw [] b149 b91 T148.heap n0 (Nat.le_trans (Nat.le_trans (Nat.le_trans (Nat.le_trans (Nat.le_trans (Nat.le_trans (Nat.le_trans Z0 K90.1) E132.1) K133.1) E142.1) K143.1) K145.1) K148.1) G148_1) hZ133 (hw _ (List.mem_of_getElem? (i := 44) rfl)) (hw _ (List.mem_of_getElem? (i := 14) rfl)) (by decide) (by decide)) q150a q150c (g := (mkF m 219 #[.val (.int p1), .val (.int p2), .val (.int p3), .val (.int p4), .val (.int (1 : Int32)), .val (.int z89), .val (.ref b91), .val (.ref b132), .val (.ref b134), .val .null, .val (.int z137), .val (.int z139), .val (.int z141), .val (.ref b91), .val (.ref b142), .val (.int (1 : Int32))] [(.ref b149)])) rfl (by rw [hml]; rfl) (Steps.refl _) (argsL := []) (rest := []) (lenOf pd0_2 rfl) rfl (by show 2 * 0 + _ ≤ _; exact Nat.le_of_eq rfl) (hb hby at_219) (fun _ _ => ⟨rfl, rfl, (by decide : 11 + 0 ≤ _), (by decide : 53 + 0 ≤ _)⟩)
        dsimp only [Pt.U, Pt.locs, Pt.cells, Pt.slots] at X150 l150 y150 z150 st150 hQ150
        subst l150 y150 z150
        obtain ⟨rfl, N150q, e150⟩ := hQ150
        have N150 := Fr.app N148 N150q
        refine goT st150 ?_
        show Go p.tables e below T150 (mkF m 222 #[.val (.int p1), .val (.int p2), .val (.int p3), .val (.int p4), .val (.int (1 : Int32)), .val (.int z89), .val (.ref b91), .val (.ref b132), .val (.ref b134), .val .null, .val (.int z137), .val (.int z139), .val (.int z141), .val (.ref b91), .val (.ref b142), .val (.int (1 : Int32))] [(.int (0 : Int32))]) _
        refine go1 (fun _ => XS.ifNo X150.here hx rfl (hb hby at_222) rfl ((if0 _ _).trans (teq (by decide : (0 : Int32) = (0 : Int32))).2)) ?_
        show Go p.tables e below T150 (mkF m 225 #[.val (.int p1), .val (.int p2), .val (.int p3), .val (.int p4), .val (.int (1 : Int32)), .val (.int z89), .val (.ref b91), .val (.ref b132), .val (.ref b134), .val .null, .val (.int z137), .val (.int z139), .val (.int z141), .val (.ref b91), .val (.ref b142), .val (.int (1 : Int32))] []) _
        refine go1 (fun _ => XS.iconst X150.here hx rfl (hb hby at_225)) ?_
        show Go p.tables e below T150 (mkF m 226 #[.val (.int p1), .val (.int p2), .val (.int p3), .val (.int p4), .val (.int (1 : Int32)), .val (.int z89), .val (.ref b91), .val (.ref b132), .val (.ref b134), .val .null, .val (.int z137), .val (.int z139), .val (.int z141), .val (.ref b91), .val (.ref b142), .val (.int (1 : Int32))] [(.int (1 : Int32))]) _
        refine go1 (fun _ => XS.goto X150.here hx rfl (pc0 := 226) (pc' := 230) rfl (hb hby at_226) (by decide) (by decide)) ?_
        show Go p.tables e below T150 (mkF m 230 #[.val (.int p1), .val (.int p2), .val (.int p3), .val (.int p4), .val (.int (1 : Int32)), .val (.int z89), .val (.ref b91), .val (.ref b132), .val (.ref b134), .val .null, .val (.int z137), .val (.int z139), .val (.int z141), .val (.ref b91), .val (.ref b142), .val (.int (1 : Int32))] [(.int (1 : Int32))]) _
        refine go1 (fun _ => XS.istore X150.here hx rfl (hb hby at_230) rfl (l' := #[.val (.int p1), .val (.int p2), .val (.int p3), .val (.int p4), .val (.int (1 : Int32)), .val (.int z89), .val (.ref b91), .val (.ref b132), .val (.ref b134), .val .null, .val (.int z137), .val (.int z139), .val (.int z141), .val (.ref b91), .val (.ref b142), .val (.int (1 : Int32))]) rfl) ?_
        show Go p.tables e below T150 (mkF m 232 #[.val (.int p1), .val (.int p2), .val (.int p3), .val (.int p4), .val (.int (1 : Int32)), .val (.int z89), .val (.ref b91), .val (.ref b132), .val (.ref b134), .val .null, .val (.int z137), .val (.int z139), .val (.int z141), .val (.ref b91), .val (.ref b142), .val (.int (1 : Int32))] []) _
        refine go1 (fun _ => XS.iload X150.here hx rfl (hb hby at_232) rfl) ?_
        show Go p.tables e below T150 (mkF m 234 #[.val (.int p1), .val (.int p2), .val (.int p3), .val (.int p4), .val (.int (1 : Int32)), .val (.int z89), .val (.ref b91), .val (.ref b132), .val (.ref b134), .val .null, .val (.int z137), .val (.int z139), .val (.int z141), .val (.ref b91), .val (.ref b142), .val (.int (1 : Int32))] [(.int (1 : Int32))]) _
        refine go1 (fun _ => XS.ifNo X150.here hx rfl (hb hby at_234) rfl ((if0 _ _).trans (feq (by decide : ¬ ((1 : Int32) = (0 : Int32)))).1)) ?_
        show Go p.tables e below T150 (mkF m 237 #[.val (.int p1), .val (.int p2), .val (.int p3), .val (.int p4), .val (.int (1 : Int32)), .val (.int z89), .val (.ref b91), .val (.ref b132), .val (.ref b134), .val .null, .val (.int z137), .val (.int z139), .val (.int z141), .val (.ref b91), .val (.ref b142), .val (.int (1 : Int32))] []) _
        refine go1 (fun _ => XS.aload X150.here hx rfl (hb hby at_237) rfl rfl) ?_
        show Go p.tables e below T150 (mkF m 239 #[.val (.int p1), .val (.int p2), .val (.int p3), .val (.int p4), .val (.int (1 : Int32)), .val (.int z89), .val (.ref b91), .val (.ref b132), .val (.ref b134), .val .null, .val (.int z137), .val (.int z139), .val (.int z141), .val (.ref b91), .val (.ref b142), .val (.int (1 : Int32))] [(.ref b132)]) _
        refine go1 (fun _ => XS.aload X150.here hx rfl (hb hby at_239) rfl rfl) ?_
        show Go p.tables e below T150 (mkF m 241 #[.val (.int p1), .val (.int p2), .val (.int p3), .val (.int p4), .val (.int (1 : Int32)), .val (.int z89), .val (.ref b91), .val (.ref b132), .val (.ref b134), .val .null, .val (.int z137), .val (.int z139), .val (.int z141), .val (.ref b91), .val (.ref b142), .val (.int (1 : Int32))] [(.ref b91), (.ref b132)]) _
        refine go1 (fun _ => XS.aload X150.here hx rfl (hb hby at_241) rfl rfl) ?_
        show Go p.tables e below T150 (mkF m 243 #[.val (.int p1), .val (.int p2), .val (.int p3), .val (.int p4), .val (.int (1 : Int32)), .val (.int z89), .val (.ref b91), .val (.ref b132), .val (.ref b134), .val .null, .val (.int z137), .val (.int z139), .val (.int z141), .val (.ref b91), .val (.ref b142), .val (.int (1 : Int32))] [(.ref b134), (.ref b91), (.ref b132)]) _
        obtain ⟨_, _, ⟨T151, L151, k151, n151⟩, -, X151, ⟨Lc151, hQ151, l151, y151, z151⟩, st151⟩ := Jvm.LawKit.callS X150 hx (y := (⟨"com/example/enrout/enrout/broker/cli/Option", "optional", "(Ljava/lang/String;Ljava/lang/String;Ljava/lang/String;)Lcom/example/enrout/enrout/broker/cli/Option;"⟩ : MethodName)) hown133 (mvT hZ133 (hw _ (List.mem_of_getElem? (i := 53) rfl))) (mvT hZ133 (hw _ (List.mem_of_getElem? (i := 54) rfl))) (mvT hZ133 (hw _ (List.mem_of_getElem? (i := 14) rfl))) (mvT hZ133 (hw _ (List.mem_of_getElem? (i := 55) rfl))) (by decide) (backOf (W := 0) (rm8 l Z a0 hw [] b132 b91 b134 T148.heap n0 (Nat.le_trans (Nat.le_trans (Nat.le_trans (Nat.le_trans (Nat.le_trans (Nat.le_trans (Nat.le_trans Z0 K90.1) E132.1) K133.1) E142.1) K143.1) K145.1) K148.1) ) hZ133 (hw _ (List.mem_of_getElem? (i := 55) rfl)) (hw _ (List.mem_of_getElem? (i := 14) rfl)) (by decide) (by decide)) (g := (mkF m 243 #[.val (.int p1), .val (.int p2), .val (.int p3), .val (.int p4), .val (.int (1 : Int32)), .val (.int z89), .val (.ref b91), .val (.ref b132), .val (.ref b134), .val .null, .val (.int z137), .val (.int z139), .val (.int z141), .val (.ref b91), .val (.ref b142), .val (.int (1 : Int32))] [(.ref b134), (.ref b91), (.ref b132)])) rfl (by rw [hml]; rfl) (argsL := [(.ref b132), (.ref b91), (.ref b134)]) (rest := []) (lenOf pd0_4 rfl) rfl (by show 2 * 0 + _ ≤ _; exact Nat.le_of_eq rfl) (hb hby at_243) (fun _ _ => ⟨rfl, e150, (by decide : 11 + 1 ≤ _), (by decide : 53 + 7 ≤ _)⟩)
        dsimp only [Pt.U, Pt.locs, Pt.cells, Pt.slots] at X151 l151 y151 z151 st151 hQ151
        subst l151 y151 z151
        obtain ⟨b152, rfl, N151q, K151, G151_0, G151_1⟩ := hQ151
        have N151 := Fr.app N150 N151q
        refine go1 st151 ?_
        show Go p.tables e below T151 (mkF m 246 #[.val (.int p1), .val (.int p2), .val (.int p3), .val (.int p4), .val (.int (1 : Int32)), .val (.int z89), .val (.ref b91), .val (.ref b132), .val (.ref b134), .val .null, .val (.int z137), .val (.int z139), .val (.int z141), .val (.ref b91), .val (.ref b142), .val (.int (1 : Int32))] [(.ref b152)]) _
        obtain ⟨cq153, kq153, q153a, q153b, q153c⟩ := isOf hZ133 rfl G151_0
        obtain ⟨_, _, ⟨T153, L153, k153, n153⟩, -, X153, ⟨Lc153, hQ153, l153, y153, z153⟩, st153⟩ := X151.virtualBack hx (y := (⟨"com/example/enrout/enrout/broker/cli/Option", "isFlag", "()Z"⟩ : MethodName)) (z := (⟨"com/example/enrout/enrout/broker/cli/Option", "isFlag", "()Z"⟩ : MethodName)) hown133 (mvT hZ133 (hw _ (List.mem_of_getElem? (i := 40) rfl))) (mvT hZ133 (hw _ (List.mem_of_getElem? (i := 41) rfl))) (notFace_of_selects (args := #[]) (mvT hZ133 (hw _ (List.mem_of_getElem? (i := 43) rfl)))) (mvT hZ133 (hw _ (List.mem_of_getElem? (i := 43) rfl))) (mvT hZ133 (hw _ (List.mem_of_getElem? (i := 42) rfl))) (by decide) (backOf (W := 0) (rmisb l Z a0 hw [] b152 b91 T151.heap n0 (Nat.le_trans (Nat.le_trans (Nat.le_trans (Nat.le_trans (Nat.le_trans (Nat.le_trans (Nat.le_trans (Nat.le_trans Z0 K90.1) E132.1) K133.1) E142.1) K143.1) K145.1) K148.1) K151.1) G151_1) hZ133 (hw _ (List.mem_of_getElem? (i := 44) rfl)) (hw _ (List.mem_of_getElem? (i := 14) rfl)) (by decide) (by decide)) q153a q153c (g := (mkF m 246 #[.val (.int p1), .val (.int p2), .val (.int p3), .val (.int p4), .val (.int (1 : Int32)), .val (.int z89), .val (.ref b91), .val (.ref b132), .val (.ref b134), .val .null, .val (.int z137), .val (.int z139), .val (.int z141), .val (.ref b91), .val (.ref b142), .val (.int (1 : Int32))] [(.ref b152)])) rfl (by rw [hml]; rfl) (Steps.refl _) (argsL := []) (rest := []) (lenOf pd0_2 rfl) rfl (by show 2 * 0 + _ ≤ _; exact Nat.le_of_eq rfl) (hb hby at_246) (fun _ _ => ⟨rfl, rfl, (by decide : 12 + 0 ≤ _), (by decide : 60 + 0 ≤ _)⟩)
        dsimp only [Pt.U, Pt.locs, Pt.cells, Pt.slots] at X153 l153 y153 z153 st153 hQ153
        subst l153 y153 z153
        obtain ⟨rfl, N153q, e153⟩ := hQ153
        have N153 := Fr.app N151 N153q
        refine goT st153 ?_
        show Go p.tables e below T153 (mkF m 249 #[.val (.int p1), .val (.int p2), .val (.int p3), .val (.int p4), .val (.int (1 : Int32)), .val (.int z89), .val (.ref b91), .val (.ref b132), .val (.ref b134), .val .null, .val (.int z137), .val (.int z139), .val (.int z141), .val (.ref b91), .val (.ref b142), .val (.int (1 : Int32))] [(.int (0 : Int32))]) _
        refine go1 (fun _ => XS.ifNo X153.here hx rfl (hb hby at_249) rfl ((if0 _ _).trans (teq (by decide : (0 : Int32) = (0 : Int32))).2)) ?_
        show Go p.tables e below T153 (mkF m 252 #[.val (.int p1), .val (.int p2), .val (.int p3), .val (.int p4), .val (.int (1 : Int32)), .val (.int z89), .val (.ref b91), .val (.ref b132), .val (.ref b134), .val .null, .val (.int z137), .val (.int z139), .val (.int z141), .val (.ref b91), .val (.ref b142), .val (.int (1 : Int32))] []) _
        refine go1 (fun _ => XS.iconst X153.here hx rfl (hb hby at_252)) ?_
        show Go p.tables e below T153 (mkF m 253 #[.val (.int p1), .val (.int p2), .val (.int p3), .val (.int p4), .val (.int (1 : Int32)), .val (.int z89), .val (.ref b91), .val (.ref b132), .val (.ref b134), .val .null, .val (.int z137), .val (.int z139), .val (.int z141), .val (.ref b91), .val (.ref b142), .val (.int (1 : Int32))] [(.int (1 : Int32))]) _
        refine go1 (fun _ => XS.goto X153.here hx rfl (pc0 := 253) (pc' := 257) rfl (hb hby at_253) (by decide) (by decide)) ?_
        show Go p.tables e below T153 (mkF m 257 #[.val (.int p1), .val (.int p2), .val (.int p3), .val (.int p4), .val (.int (1 : Int32)), .val (.int z89), .val (.ref b91), .val (.ref b132), .val (.ref b134), .val .null, .val (.int z137), .val (.int z139), .val (.int z141), .val (.ref b91), .val (.ref b142), .val (.int (1 : Int32))] [(.int (1 : Int32))]) _
        refine go1 (fun _ => XS.istore X153.here hx rfl (hb hby at_257) rfl (l' := #[.val (.int p1), .val (.int p2), .val (.int p3), .val (.int p4), .val (.int (1 : Int32)), .val (.int z89), .val (.ref b91), .val (.ref b132), .val (.ref b134), .val .null, .val (.int z137), .val (.int z139), .val (.int z141), .val (.ref b91), .val (.ref b142), .val (.int (1 : Int32))]) rfl) ?_
        show Go p.tables e below T153 (mkF m 259 #[.val (.int p1), .val (.int p2), .val (.int p3), .val (.int p4), .val (.int (1 : Int32)), .val (.int z89), .val (.ref b91), .val (.ref b132), .val (.ref b134), .val .null, .val (.int z137), .val (.int z139), .val (.int z141), .val (.ref b91), .val (.ref b142), .val (.int (1 : Int32))] []) _
        refine go1 (fun _ => XS.iload X153.here hx rfl (hb hby at_259) rfl) ?_
        show Go p.tables e below T153 (mkF m 261 #[.val (.int p1), .val (.int p2), .val (.int p3), .val (.int p4), .val (.int (1 : Int32)), .val (.int z89), .val (.ref b91), .val (.ref b132), .val (.ref b134), .val .null, .val (.int z137), .val (.int z139), .val (.int z141), .val (.ref b91), .val (.ref b142), .val (.int (1 : Int32))] [(.int (1 : Int32))]) _
        refine goRW (s := s) (vm₁ := T133.vm) X153 hS133 (by rw [e153]; exact (Nat.le_trans (Nat.le_trans (Nat.le_trans (Nat.le_trans (Nat.le_trans (Nat.le_refl _) E142.1) K143.1) K145.1) K148.1) K151.1)) (BodyLoose.notSynchronized Bd) (v := (some (.int (1 : Int32)))) (fun h => by rw [Bd.returns] at h; cases h) (Q0 Z p1 p2 p3 p4 a_COMPACT_STRINGS h0 n0) (fun fs hr => retN X153 hx (t := .boolean) Bd.returns (by simp) (hb hby at_261) hr) (by decide) (by decide) ?_
        show Q0 Z p1 p2 p3 p4 a_COMPACT_STRINGS h0 n0 _ T153.heap _
        rw [e153]
        exact ⟨rfl, N153⟩
      · skip
        refine go1 (fun _ => XS.ifNo X133.here hx rfl (hb hby at_71) rfl ((if0 _ _).trans (feq hc135).1)) ?_
        show Go p.tables e below T133 (mkF m 74 #[.val (.int p1), .val (.int p2), .val (.int p3), .val (.int p4), .val (.int (1 : Int32)), .val (.int z89), .val (.ref b91), .val (.ref b132), .val (.ref b134), .unset, .unset, .unset, .unset, .unset, .unset, .unset] []) _
        refine go1 (fun _ => XS.aload X133.here hx rfl (hb hby at_74) rfl rfl) ?_
        show Go p.tables e below T133 (mkF m 76 #[.val (.int p1), .val (.int p2), .val (.int p3), .val (.int p4), .val (.int (1 : Int32)), .val (.int z89), .val (.ref b91), .val (.ref b132), .val (.ref b134), .unset, .unset, .unset, .unset, .unset, .unset, .unset] [(.ref b91)]) _
        refine go1 (fun _ => XS.goto X133.here hx rfl (pc0 := 76) (pc' := 80) rfl (hb hby at_76) (by decide) (by decide)) ?_
        show Go p.tables e below T133 (mkF m 80 #[.val (.int p1), .val (.int p2), .val (.int p3), .val (.int p4), .val (.int (1 : Int32)), .val (.int z89), .val (.ref b91), .val (.ref b132), .val (.ref b134), .unset, .unset, .unset, .unset, .unset, .unset, .unset] [(.ref b91)]) _
        refine go1 (fun _ => XS.astore X133.here hx rfl (hb hby at_80) rfl rfl (l' := #[.val (.int p1), .val (.int p2), .val (.int p3), .val (.int p4), .val (.int (1 : Int32)), .val (.int z89), .val (.ref b91), .val (.ref b132), .val (.ref b134), .val (.ref b91), .unset, .unset, .unset, .unset, .unset, .unset]) rfl) ?_
        show Go p.tables e below T133 (mkF m 82 #[.val (.int p1), .val (.int p2), .val (.int p3), .val (.int p4), .val (.int (1 : Int32)), .val (.int z89), .val (.ref b91), .val (.ref b132), .val (.ref b134), .val (.ref b91), .unset, .unset, .unset, .unset, .unset, .unset] []) _
        refine go1 (fun _ => XS.iloadN X133.here hx rfl (hb hby at_82) rfl) ?_
        show Go p.tables e below T133 (mkF m 83 #[.val (.int p1), .val (.int p2), .val (.int p3), .val (.int p4), .val (.int (1 : Int32)), .val (.int z89), .val (.ref b91), .val (.ref b132), .val (.ref b134), .val (.ref b91), .unset, .unset, .unset, .unset, .unset, .unset] [(.int p4)]) _
        refine go1 (fun _ => XS.iconst X133.here hx rfl (hb hby at_83)) ?_
        show Go p.tables e below T133 (mkF m 84 #[.val (.int p1), .val (.int p2), .val (.int p3), .val (.int p4), .val (.int (1 : Int32)), .val (.int z89), .val (.ref b91), .val (.ref b132), .val (.ref b134), .val (.ref b91), .unset, .unset, .unset, .unset, .unset, .unset] [(.int (1 : Int32)), (.int p4)]) _
        refine go1 (fun _ => XS.iand X133.here hx rfl (hb hby at_84) rfl) ?_
        show Go p.tables e below T133 (mkF m 85 #[.val (.int p1), .val (.int p2), .val (.int p3), .val (.int p4), .val (.int (1 : Int32)), .val (.int z89), .val (.ref b91), .val (.ref b132), .val (.ref b134), .val (.ref b91), .unset, .unset, .unset, .unset, .unset, .unset] [(.int (p4 &&& (1 : Int32)))]) _
        refine go1 (T' := T133) (g' := (mkF m 93 #[.val (.int p1), .val (.int p2), .val (.int p3), .val (.int p4), .val (.int (1 : Int32)), .val (.int z89), .val (.ref b91), .val (.ref b132), .val (.ref b134), .val (.ref b91), .unset, .unset, .unset, .unset, .unset, .unset] [(.int (if (p4 &&& (1 : Int32)) = (0 : Int32) then (0 : Int32) else (1 : Int32)))])) (fun t k => ?_) ?_
        · by_cases hd154 : (p4 &&& (1 : Int32)) = (0 : Int32)
          · skip
            rw [(if_pos hd154 : (if (p4 &&& (1 : Int32)) = (0 : Int32) then (0 : Int32) else (1 : Int32)) = (0 : Int32))] at k
            show Steps p.tables e below (T133.setTop (mkF m 85 #[.val (.int p1), .val (.int p2), .val (.int p3), .val (.int p4), .val (.int (1 : Int32)), .val (.int z89), .val (.ref b91), .val (.ref b132), .val (.ref b134), .val (.ref b91), .unset, .unset, .unset, .unset, .unset, .unset] [(.int (p4 &&& (1 : Int32)))])) _
            refine XS.ifYes X133.here hx rfl (pc0 := 85) (pc' := 92) rfl (hb hby at_85) rfl ((if0 _ _).trans (teq hd154).1) (by decide) (by decide) ?_
            show Steps p.tables e below (T133.setTop (mkF m 92 #[.val (.int p1), .val (.int p2), .val (.int p3), .val (.int p4), .val (.int (1 : Int32)), .val (.int z89), .val (.ref b91), .val (.ref b132), .val (.ref b134), .val (.ref b91), .unset, .unset, .unset, .unset, .unset, .unset] [])) _
            refine XS.iconst X133.here hx rfl (hb hby at_92) ?_
            show Steps p.tables e below (T133.setTop (mkF m 93 #[.val (.int p1), .val (.int p2), .val (.int p3), .val (.int p4), .val (.int (1 : Int32)), .val (.int z89), .val (.ref b91), .val (.ref b132), .val (.ref b134), .val (.ref b91), .unset, .unset, .unset, .unset, .unset, .unset] [(.int (0 : Int32))])) _
            exact k
          · skip
            rw [(if_neg hd154 : (if (p4 &&& (1 : Int32)) = (0 : Int32) then (0 : Int32) else (1 : Int32)) = (1 : Int32))] at k
            show Steps p.tables e below (T133.setTop (mkF m 85 #[.val (.int p1), .val (.int p2), .val (.int p3), .val (.int p4), .val (.int (1 : Int32)), .val (.int z89), .val (.ref b91), .val (.ref b132), .val (.ref b134), .val (.ref b91), .unset, .unset, .unset, .unset, .unset, .unset] [(.int (p4 &&& (1 : Int32)))])) _
            refine XS.ifNo X133.here hx rfl (hb hby at_85) rfl ((if0 _ _).trans (feq hd154).1) ?_
            show Steps p.tables e below (T133.setTop (mkF m 88 #[.val (.int p1), .val (.int p2), .val (.int p3), .val (.int p4), .val (.int (1 : Int32)), .val (.int z89), .val (.ref b91), .val (.ref b132), .val (.ref b134), .val (.ref b91), .unset, .unset, .unset, .unset, .unset, .unset] [])) _
            refine XS.iconst X133.here hx rfl (hb hby at_88) ?_
            show Steps p.tables e below (T133.setTop (mkF m 89 #[.val (.int p1), .val (.int p2), .val (.int p3), .val (.int p4), .val (.int (1 : Int32)), .val (.int z89), .val (.ref b91), .val (.ref b132), .val (.ref b134), .val (.ref b91), .unset, .unset, .unset, .unset, .unset, .unset] [(.int (1 : Int32))])) _
            refine XS.goto X133.here hx rfl (pc0 := 89) (pc' := 93) rfl (hb hby at_89) (by decide) (by decide) ?_
            show Steps p.tables e below (T133.setTop (mkF m 93 #[.val (.int p1), .val (.int p2), .val (.int p3), .val (.int p4), .val (.int (1 : Int32)), .val (.int z89), .val (.ref b91), .val (.ref b132), .val (.ref b134), .val (.ref b91), .unset, .unset, .unset, .unset, .unset, .unset] [(.int (1 : Int32))])) _
            exact k
        show Go p.tables e below T133 (mkF m 93 #[.val (.int p1), .val (.int p2), .val (.int p3), .val (.int p4), .val (.int (1 : Int32)), .val (.int z89), .val (.ref b91), .val (.ref b132), .val (.ref b134), .val (.ref b91), .unset, .unset, .unset, .unset, .unset, .unset] [(.int (if (p4 &&& (1 : Int32)) = (0 : Int32) then (0 : Int32) else (1 : Int32)))]) _
        obtain ⟨z155, hz155⟩ : ∃ z : Int32, z = (if (p4 &&& (1 : Int32)) = (0 : Int32) then (0 : Int32) else (1 : Int32)) := ⟨_, rfl⟩
        rw [← hz155]
        show Go p.tables e below T133 (mkF m 93 #[.val (.int p1), .val (.int p2), .val (.int p3), .val (.int p4), .val (.int (1 : Int32)), .val (.int z89), .val (.ref b91), .val (.ref b132), .val (.ref b134), .val (.ref b91), .unset, .unset, .unset, .unset, .unset, .unset] [(.int z155)]) _
        refine go1 (fun _ => XS.istore X133.here hx rfl (hb hby at_93) rfl (l' := #[.val (.int p1), .val (.int p2), .val (.int p3), .val (.int p4), .val (.int (1 : Int32)), .val (.int z89), .val (.ref b91), .val (.ref b132), .val (.ref b134), .val (.ref b91), .val (.int z155), .unset, .unset, .unset, .unset, .unset]) rfl) ?_
        show Go p.tables e below T133 (mkF m 95 #[.val (.int p1), .val (.int p2), .val (.int p3), .val (.int p4), .val (.int (1 : Int32)), .val (.int z89), .val (.ref b91), .val (.ref b132), .val (.ref b134), .val (.ref b91), .val (.int z155), .unset, .unset, .unset, .unset, .unset] []) _
        refine go1 (fun _ => XS.iloadN X133.here hx rfl (hb hby at_95) rfl) ?_
        show Go p.tables e below T133 (mkF m 96 #[.val (.int p1), .val (.int p2), .val (.int p3), .val (.int p4), .val (.int (1 : Int32)), .val (.int z89), .val (.ref b91), .val (.ref b132), .val (.ref b134), .val (.ref b91), .val (.int z155), .unset, .unset, .unset, .unset, .unset] [(.int p4)]) _
        refine go1 (fun _ => XS.iconst X133.here hx rfl (hb hby at_96)) ?_
        show Go p.tables e below T133 (mkF m 97 #[.val (.int p1), .val (.int p2), .val (.int p3), .val (.int p4), .val (.int (1 : Int32)), .val (.int z89), .val (.ref b91), .val (.ref b132), .val (.ref b134), .val (.ref b91), .val (.int z155), .unset, .unset, .unset, .unset, .unset] [(.int (2 : Int32)), (.int p4)]) _
        refine go1 (fun _ => XS.iand X133.here hx rfl (hb hby at_97) rfl) ?_
        show Go p.tables e below T133 (mkF m 98 #[.val (.int p1), .val (.int p2), .val (.int p3), .val (.int p4), .val (.int (1 : Int32)), .val (.int z89), .val (.ref b91), .val (.ref b132), .val (.ref b134), .val (.ref b91), .val (.int z155), .unset, .unset, .unset, .unset, .unset] [(.int (p4 &&& (2 : Int32)))]) _
        refine go1 (T' := T133) (g' := (mkF m 106 #[.val (.int p1), .val (.int p2), .val (.int p3), .val (.int p4), .val (.int (1 : Int32)), .val (.int z89), .val (.ref b91), .val (.ref b132), .val (.ref b134), .val (.ref b91), .val (.int z155), .unset, .unset, .unset, .unset, .unset] [(.int (if (p4 &&& (2 : Int32)) = (0 : Int32) then (0 : Int32) else (1 : Int32)))])) (fun t k => ?_) ?_
        · by_cases hd156 : (p4 &&& (2 : Int32)) = (0 : Int32)
          · skip
            rw [(if_pos hd156 : (if (p4 &&& (2 : Int32)) = (0 : Int32) then (0 : Int32) else (1 : Int32)) = (0 : Int32))] at k
            show Steps p.tables e below (T133.setTop (mkF m 98 #[.val (.int p1), .val (.int p2), .val (.int p3), .val (.int p4), .val (.int (1 : Int32)), .val (.int z89), .val (.ref b91), .val (.ref b132), .val (.ref b134), .val (.ref b91), .val (.int z155), .unset, .unset, .unset, .unset, .unset] [(.int (p4 &&& (2 : Int32)))])) _
            refine XS.ifYes X133.here hx rfl (pc0 := 98) (pc' := 105) rfl (hb hby at_98) rfl ((if0 _ _).trans (teq hd156).1) (by decide) (by decide) ?_
            show Steps p.tables e below (T133.setTop (mkF m 105 #[.val (.int p1), .val (.int p2), .val (.int p3), .val (.int p4), .val (.int (1 : Int32)), .val (.int z89), .val (.ref b91), .val (.ref b132), .val (.ref b134), .val (.ref b91), .val (.int z155), .unset, .unset, .unset, .unset, .unset] [])) _
            refine XS.iconst X133.here hx rfl (hb hby at_105) ?_
            show Steps p.tables e below (T133.setTop (mkF m 106 #[.val (.int p1), .val (.int p2), .val (.int p3), .val (.int p4), .val (.int (1 : Int32)), .val (.int z89), .val (.ref b91), .val (.ref b132), .val (.ref b134), .val (.ref b91), .val (.int z155), .unset, .unset, .unset, .unset, .unset] [(.int (0 : Int32))])) _
            exact k
          · skip
            rw [(if_neg hd156 : (if (p4 &&& (2 : Int32)) = (0 : Int32) then (0 : Int32) else (1 : Int32)) = (1 : Int32))] at k
            show Steps p.tables e below (T133.setTop (mkF m 98 #[.val (.int p1), .val (.int p2), .val (.int p3), .val (.int p4), .val (.int (1 : Int32)), .val (.int z89), .val (.ref b91), .val (.ref b132), .val (.ref b134), .val (.ref b91), .val (.int z155), .unset, .unset, .unset, .unset, .unset] [(.int (p4 &&& (2 : Int32)))])) _
            refine XS.ifNo X133.here hx rfl (hb hby at_98) rfl ((if0 _ _).trans (feq hd156).1) ?_
            show Steps p.tables e below (T133.setTop (mkF m 101 #[.val (.int p1), .val (.int p2), .val (.int p3), .val (.int p4), .val (.int (1 : Int32)), .val (.int z89), .val (.ref b91), .val (.ref b132), .val (.ref b134), .val (.ref b91), .val (.int z155), .unset, .unset, .unset, .unset, .unset] [])) _
            refine XS.iconst X133.here hx rfl (hb hby at_101) ?_
            show Steps p.tables e below (T133.setTop (mkF m 102 #[.val (.int p1), .val (.int p2), .val (.int p3), .val (.int p4), .val (.int (1 : Int32)), .val (.int z89), .val (.ref b91), .val (.ref b132), .val (.ref b134), .val (.ref b91), .val (.int z155), .unset, .unset, .unset, .unset, .unset] [(.int (1 : Int32))])) _
            refine XS.goto X133.here hx rfl (pc0 := 102) (pc' := 106) rfl (hb hby at_102) (by decide) (by decide) ?_
            show Steps p.tables e below (T133.setTop (mkF m 106 #[.val (.int p1), .val (.int p2), .val (.int p3), .val (.int p4), .val (.int (1 : Int32)), .val (.int z89), .val (.ref b91), .val (.ref b132), .val (.ref b134), .val (.ref b91), .val (.int z155), .unset, .unset, .unset, .unset, .unset] [(.int (1 : Int32))])) _
            exact k
        show Go p.tables e below T133 (mkF m 106 #[.val (.int p1), .val (.int p2), .val (.int p3), .val (.int p4), .val (.int (1 : Int32)), .val (.int z89), .val (.ref b91), .val (.ref b132), .val (.ref b134), .val (.ref b91), .val (.int z155), .unset, .unset, .unset, .unset, .unset] [(.int (if (p4 &&& (2 : Int32)) = (0 : Int32) then (0 : Int32) else (1 : Int32)))]) _
        obtain ⟨z157, hz157⟩ : ∃ z : Int32, z = (if (p4 &&& (2 : Int32)) = (0 : Int32) then (0 : Int32) else (1 : Int32)) := ⟨_, rfl⟩
        rw [← hz157]
        show Go p.tables e below T133 (mkF m 106 #[.val (.int p1), .val (.int p2), .val (.int p3), .val (.int p4), .val (.int (1 : Int32)), .val (.int z89), .val (.ref b91), .val (.ref b132), .val (.ref b134), .val (.ref b91), .val (.int z155), .unset, .unset, .unset, .unset, .unset] [(.int z157)]) _
        refine go1 (fun _ => XS.istore X133.here hx rfl (hb hby at_106) rfl (l' := #[.val (.int p1), .val (.int p2), .val (.int p3), .val (.int p4), .val (.int (1 : Int32)), .val (.int z89), .val (.ref b91), .val (.ref b132), .val (.ref b134), .val (.ref b91), .val (.int z155), .val (.int z157), .unset, .unset, .unset, .unset]) rfl) ?_
        show Go p.tables e below T133 (mkF m 108 #[.val (.int p1), .val (.int p2), .val (.int p3), .val (.int p4), .val (.int (1 : Int32)), .val (.int z89), .val (.ref b91), .val (.ref b132), .val (.ref b134), .val (.ref b91), .val (.int z155), .val (.int z157), .unset, .unset, .unset, .unset] []) _
        refine go1 (fun _ => XS.iloadN X133.here hx rfl (hb hby at_108) rfl) ?_
        show Go p.tables e below T133 (mkF m 109 #[.val (.int p1), .val (.int p2), .val (.int p3), .val (.int p4), .val (.int (1 : Int32)), .val (.int z89), .val (.ref b91), .val (.ref b132), .val (.ref b134), .val (.ref b91), .val (.int z155), .val (.int z157), .unset, .unset, .unset, .unset] [(.int p4)]) _
        refine go1 (fun _ => XS.iconst X133.here hx rfl (hb hby at_109)) ?_
        show Go p.tables e below T133 (mkF m 110 #[.val (.int p1), .val (.int p2), .val (.int p3), .val (.int p4), .val (.int (1 : Int32)), .val (.int z89), .val (.ref b91), .val (.ref b132), .val (.ref b134), .val (.ref b91), .val (.int z155), .val (.int z157), .unset, .unset, .unset, .unset] [(.int (4 : Int32)), (.int p4)]) _
        refine go1 (fun _ => XS.iand X133.here hx rfl (hb hby at_110) rfl) ?_
        show Go p.tables e below T133 (mkF m 111 #[.val (.int p1), .val (.int p2), .val (.int p3), .val (.int p4), .val (.int (1 : Int32)), .val (.int z89), .val (.ref b91), .val (.ref b132), .val (.ref b134), .val (.ref b91), .val (.int z155), .val (.int z157), .unset, .unset, .unset, .unset] [(.int (p4 &&& (4 : Int32)))]) _
        refine go1 (T' := T133) (g' := (mkF m 119 #[.val (.int p1), .val (.int p2), .val (.int p3), .val (.int p4), .val (.int (1 : Int32)), .val (.int z89), .val (.ref b91), .val (.ref b132), .val (.ref b134), .val (.ref b91), .val (.int z155), .val (.int z157), .unset, .unset, .unset, .unset] [(.int (if (p4 &&& (4 : Int32)) = (0 : Int32) then (0 : Int32) else (1 : Int32)))])) (fun t k => ?_) ?_
        · by_cases hd158 : (p4 &&& (4 : Int32)) = (0 : Int32)
          · skip
            rw [(if_pos hd158 : (if (p4 &&& (4 : Int32)) = (0 : Int32) then (0 : Int32) else (1 : Int32)) = (0 : Int32))] at k
            show Steps p.tables e below (T133.setTop (mkF m 111 #[.val (.int p1), .val (.int p2), .val (.int p3), .val (.int p4), .val (.int (1 : Int32)), .val (.int z89), .val (.ref b91), .val (.ref b132), .val (.ref b134), .val (.ref b91), .val (.int z155), .val (.int z157), .unset, .unset, .unset, .unset] [(.int (p4 &&& (4 : Int32)))])) _
            refine XS.ifYes X133.here hx rfl (pc0 := 111) (pc' := 118) rfl (hb hby at_111) rfl ((if0 _ _).trans (teq hd158).1) (by decide) (by decide) ?_
            show Steps p.tables e below (T133.setTop (mkF m 118 #[.val (.int p1), .val (.int p2), .val (.int p3), .val (.int p4), .val (.int (1 : Int32)), .val (.int z89), .val (.ref b91), .val (.ref b132), .val (.ref b134), .val (.ref b91), .val (.int z155), .val (.int z157), .unset, .unset, .unset, .unset] [])) _
            refine XS.iconst X133.here hx rfl (hb hby at_118) ?_
            show Steps p.tables e below (T133.setTop (mkF m 119 #[.val (.int p1), .val (.int p2), .val (.int p3), .val (.int p4), .val (.int (1 : Int32)), .val (.int z89), .val (.ref b91), .val (.ref b132), .val (.ref b134), .val (.ref b91), .val (.int z155), .val (.int z157), .unset, .unset, .unset, .unset] [(.int (0 : Int32))])) _
            exact k
          · skip
            rw [(if_neg hd158 : (if (p4 &&& (4 : Int32)) = (0 : Int32) then (0 : Int32) else (1 : Int32)) = (1 : Int32))] at k
            show Steps p.tables e below (T133.setTop (mkF m 111 #[.val (.int p1), .val (.int p2), .val (.int p3), .val (.int p4), .val (.int (1 : Int32)), .val (.int z89), .val (.ref b91), .val (.ref b132), .val (.ref b134), .val (.ref b91), .val (.int z155), .val (.int z157), .unset, .unset, .unset, .unset] [(.int (p4 &&& (4 : Int32)))])) _
            refine XS.ifNo X133.here hx rfl (hb hby at_111) rfl ((if0 _ _).trans (feq hd158).1) ?_
            show Steps p.tables e below (T133.setTop (mkF m 114 #[.val (.int p1), .val (.int p2), .val (.int p3), .val (.int p4), .val (.int (1 : Int32)), .val (.int z89), .val (.ref b91), .val (.ref b132), .val (.ref b134), .val (.ref b91), .val (.int z155), .val (.int z157), .unset, .unset, .unset, .unset] [])) _
            refine XS.iconst X133.here hx rfl (hb hby at_114) ?_
            show Steps p.tables e below (T133.setTop (mkF m 115 #[.val (.int p1), .val (.int p2), .val (.int p3), .val (.int p4), .val (.int (1 : Int32)), .val (.int z89), .val (.ref b91), .val (.ref b132), .val (.ref b134), .val (.ref b91), .val (.int z155), .val (.int z157), .unset, .unset, .unset, .unset] [(.int (1 : Int32))])) _
            refine XS.goto X133.here hx rfl (pc0 := 115) (pc' := 119) rfl (hb hby at_115) (by decide) (by decide) ?_
            show Steps p.tables e below (T133.setTop (mkF m 119 #[.val (.int p1), .val (.int p2), .val (.int p3), .val (.int p4), .val (.int (1 : Int32)), .val (.int z89), .val (.ref b91), .val (.ref b132), .val (.ref b134), .val (.ref b91), .val (.int z155), .val (.int z157), .unset, .unset, .unset, .unset] [(.int (1 : Int32))])) _
            exact k
        show Go p.tables e below T133 (mkF m 119 #[.val (.int p1), .val (.int p2), .val (.int p3), .val (.int p4), .val (.int (1 : Int32)), .val (.int z89), .val (.ref b91), .val (.ref b132), .val (.ref b134), .val (.ref b91), .val (.int z155), .val (.int z157), .unset, .unset, .unset, .unset] [(.int (if (p4 &&& (4 : Int32)) = (0 : Int32) then (0 : Int32) else (1 : Int32)))]) _
        obtain ⟨z159, hz159⟩ : ∃ z : Int32, z = (if (p4 &&& (4 : Int32)) = (0 : Int32) then (0 : Int32) else (1 : Int32)) := ⟨_, rfl⟩
        rw [← hz159]
        show Go p.tables e below T133 (mkF m 119 #[.val (.int p1), .val (.int p2), .val (.int p3), .val (.int p4), .val (.int (1 : Int32)), .val (.int z89), .val (.ref b91), .val (.ref b132), .val (.ref b134), .val (.ref b91), .val (.int z155), .val (.int z157), .unset, .unset, .unset, .unset] [(.int z159)]) _
        refine go1 (fun _ => XS.istore X133.here hx rfl (hb hby at_119) rfl (l' := #[.val (.int p1), .val (.int p2), .val (.int p3), .val (.int p4), .val (.int (1 : Int32)), .val (.int z89), .val (.ref b91), .val (.ref b132), .val (.ref b134), .val (.ref b91), .val (.int z155), .val (.int z157), .val (.int z159), .unset, .unset, .unset]) rfl) ?_
        show Go p.tables e below T133 (mkF m 121 #[.val (.int p1), .val (.int p2), .val (.int p3), .val (.int p4), .val (.int (1 : Int32)), .val (.int z89), .val (.ref b91), .val (.ref b132), .val (.ref b134), .val (.ref b91), .val (.int z155), .val (.int z157), .val (.int z159), .unset, .unset, .unset] []) _
        refine go1 (fun _ => XS.iload X133.here hx rfl (hb hby at_121) rfl) ?_
        show Go p.tables e below T133 (mkF m 123 #[.val (.int p1), .val (.int p2), .val (.int p3), .val (.int p4), .val (.int (1 : Int32)), .val (.int z89), .val (.ref b91), .val (.ref b132), .val (.ref b134), .val (.ref b91), .val (.int z155), .val (.int z157), .val (.int z159), .unset, .unset, .unset] [(.int (1 : Int32))]) _
        refine go1 (fun _ => XS.ifNo X133.here hx rfl (hb hby at_123) rfl ((if0 _ _).trans (feq (by decide : ¬ ((1 : Int32) = (0 : Int32)))).1)) ?_
        show Go p.tables e below T133 (mkF m 126 #[.val (.int p1), .val (.int p2), .val (.int p3), .val (.int p4), .val (.int (1 : Int32)), .val (.int z89), .val (.ref b91), .val (.ref b132), .val (.ref b134), .val (.ref b91), .val (.int z155), .val (.int z157), .val (.int z159), .unset, .unset, .unset] []) _
        refine go1 (fun _ => XS.aload X133.here hx rfl (hb hby at_126) rfl rfl) ?_
        show Go p.tables e below T133 (mkF m 128 #[.val (.int p1), .val (.int p2), .val (.int p3), .val (.int p4), .val (.int (1 : Int32)), .val (.int z89), .val (.ref b91), .val (.ref b132), .val (.ref b134), .val (.ref b91), .val (.int z155), .val (.int z157), .val (.int z159), .unset, .unset, .unset] [(.ref b91)]) _
        refine go1 (fun _ => XS.goto X133.here hx rfl (pc0 := 128) (pc' := 132) rfl (hb hby at_128) (by decide) (by decide)) ?_
        show Go p.tables e below T133 (mkF m 132 #[.val (.int p1), .val (.int p2), .val (.int p3), .val (.int p4), .val (.int (1 : Int32)), .val (.int z89), .val (.ref b91), .val (.ref b132), .val (.ref b134), .val (.ref b91), .val (.int z155), .val (.int z157), .val (.int z159), .unset, .unset, .unset] [(.ref b91)]) _
        refine go1 (fun _ => XS.astore X133.here hx rfl (hb hby at_132) rfl rfl (l' := #[.val (.int p1), .val (.int p2), .val (.int p3), .val (.int p4), .val (.int (1 : Int32)), .val (.int z89), .val (.ref b91), .val (.ref b132), .val (.ref b134), .val (.ref b91), .val (.int z155), .val (.int z157), .val (.int z159), .val (.ref b91), .unset, .unset]) rfl) ?_
        show Go p.tables e below T133 (mkF m 134 #[.val (.int p1), .val (.int p2), .val (.int p3), .val (.int p4), .val (.int (1 : Int32)), .val (.int z89), .val (.ref b91), .val (.ref b132), .val (.ref b134), .val (.ref b91), .val (.int z155), .val (.int z157), .val (.int z159), .val (.ref b91), .unset, .unset] []) _
        obtain ⟨T160, h160, X160, e160, E160, A160, D160, -, st160⟩ := newO X133 hx hZ133 hown133 (hw _ (List.mem_of_getElem? (i := 12) rfl)) (hw _ (List.mem_of_getElem? (i := 13) rfl)) (hw _ (List.mem_of_getElem? (i := 14) rfl)) rfl (g := (mkF m 134 #[.val (.int p1), .val (.int p2), .val (.int p3), .val (.int p4), .val (.int (1 : Int32)), .val (.int z89), .val (.ref b91), .val (.ref b132), .val (.ref b134), .val (.ref b91), .val (.int z155), .val (.int z157), .val (.int z159), .val (.ref b91), .unset, .unset] [])) rfl (hb hby at_134) (by decide) (by decide)
        obtain ⟨b160, g160⟩ : ∃ z, z = T133.heap.size := ⟨_, rfl⟩
        rw [← g160] at A160 D160 st160
        have g_b160 : n0 ≤ b160 := Nat.le_trans (Nat.le_trans (Nat.le_trans (Nat.le_trans Z0 K90.1) E132.1) K133.1) (Nat.le_of_eq g160.symm)
        have F_name_b160 : Fld Z h160 b160 "com/example/enrout/enrout/broker/cli/Option" "name" "Ljava/lang/String;" .null := D160 (Or.inr (hw _ (List.mem_of_getElem? (i := 27) rfl))) (ty := (.object "java/lang/String")) (by decide)
        have F_value_b160 : Fld Z h160 b160 "com/example/enrout/enrout/broker/cli/Option" "value" "Ljava/lang/String;" .null := D160 (Or.inr (hw _ (List.mem_of_getElem? (i := 29) rfl))) (ty := (.object "java/lang/String")) (by decide)
        have F_help_b160 : Fld Z h160 b160 "com/example/enrout/enrout/broker/cli/Option" "help" "Ljava/lang/String;" .null := D160 (Or.inr (hw _ (List.mem_of_getElem? (i := 31) rfl))) (ty := (.object "java/lang/String")) (by decide)
        have F_defaultValue_b160 : Fld Z h160 b160 "com/example/enrout/enrout/broker/cli/Option" "defaultValue" "Ljava/lang/String;" .null := D160 (Or.inr (hw _ (List.mem_of_getElem? (i := 33) rfl))) (ty := (.object "java/lang/String")) (by decide)
        have F_required_b160 : Fld Z h160 b160 "com/example/enrout/enrout/broker/cli/Option" "required" "Z" (.int (0 : Int32)) := D160 (Or.inr (hw _ (List.mem_of_getElem? (i := 35) rfl))) (ty := .boolean) (by decide)
        have F_repeatable_b160 : Fld Z h160 b160 "com/example/enrout/enrout/broker/cli/Option" "repeatable" "Z" (.int (0 : Int32)) := D160 (Or.inr (hw _ (List.mem_of_getElem? (i := 37) rfl))) (ty := .boolean) (by decide)
        have F_several_b160 : Fld Z h160 b160 "com/example/enrout/enrout/broker/cli/Option" "several" "Z" (.int (0 : Int32)) := D160 (Or.inr (hw _ (List.mem_of_getElem? (i := 39) rfl))) (ty := .boolean) (by decide)
        refine go1 st160 ?_
        show Go p.tables e below T160 (mkF m 137 #[.val (.int p1), .val (.int p2), .val (.int p3), .val (.int p4), .val (.int (1 : Int32)), .val (.int z89), .val (.ref b91), .val (.ref b132), .val (.ref b134), .val (.ref b91), .val (.int z155), .val (.int z157), .val (.int z159), .val (.ref b91), .unset, .unset] [(.ref b160)]) _
        refine go1 (fun _ => XS.dup X160.here hx rfl (hb hby at_137) rfl rfl) ?_
        show Go p.tables e below T160 (mkF m 138 #[.val (.int p1), .val (.int p2), .val (.int p3), .val (.int p4), .val (.int (1 : Int32)), .val (.int z89), .val (.ref b91), .val (.ref b132), .val (.ref b134), .val (.ref b91), .val (.int z155), .val (.int z157), .val (.int z159), .val (.ref b91), .unset, .unset] [(.ref b160), (.ref b160)]) _
        refine go1 (fun _ => XS.aload X160.here hx rfl (hb hby at_138) rfl rfl) ?_
        show Go p.tables e below T160 (mkF m 140 #[.val (.int p1), .val (.int p2), .val (.int p3), .val (.int p4), .val (.int (1 : Int32)), .val (.int z89), .val (.ref b91), .val (.ref b132), .val (.ref b134), .val (.ref b91), .val (.int z155), .val (.int z157), .val (.int z159), .val (.ref b91), .unset, .unset] [(.ref b132), (.ref b160), (.ref b160)]) _
        refine go1 (fun _ => XS.aload X160.here hx rfl (hb hby at_140) rfl rfl) ?_
        show Go p.tables e below T160 (mkF m 142 #[.val (.int p1), .val (.int p2), .val (.int p3), .val (.int p4), .val (.int (1 : Int32)), .val (.int z89), .val (.ref b91), .val (.ref b132), .val (.ref b134), .val (.ref b91), .val (.int z155), .val (.int z157), .val (.int z159), .val (.ref b91), .unset, .unset] [(.ref b91), (.ref b132), (.ref b160), (.ref b160)]) _
        refine go1 (fun _ => XS.aload X160.here hx rfl (hb hby at_142) rfl rfl) ?_
        show Go p.tables e below T160 (mkF m 144 #[.val (.int p1), .val (.int p2), .val (.int p3), .val (.int p4), .val (.int (1 : Int32)), .val (.int z89), .val (.ref b91), .val (.ref b132), .val (.ref b134), .val (.ref b91), .val (.int z155), .val (.int z157), .val (.int z159), .val (.ref b91), .unset, .unset] [(.ref b134), (.ref b91), (.ref b132), (.ref b160), (.ref b160)]) _
        refine go1 (fun _ => XS.aload X160.here hx rfl (hb hby at_144) rfl rfl) ?_
        show Go p.tables e below T160 (mkF m 146 #[.val (.int p1), .val (.int p2), .val (.int p3), .val (.int p4), .val (.int (1 : Int32)), .val (.int z89), .val (.ref b91), .val (.ref b132), .val (.ref b134), .val (.ref b91), .val (.int z155), .val (.int z157), .val (.int z159), .val (.ref b91), .unset, .unset] [(.ref b91), (.ref b134), (.ref b91), (.ref b132), (.ref b160), (.ref b160)]) _
        refine go1 (fun _ => XS.iload X160.here hx rfl (hb hby at_146) rfl) ?_
        show Go p.tables e below T160 (mkF m 148 #[.val (.int p1), .val (.int p2), .val (.int p3), .val (.int p4), .val (.int (1 : Int32)), .val (.int z89), .val (.ref b91), .val (.ref b132), .val (.ref b134), .val (.ref b91), .val (.int z155), .val (.int z157), .val (.int z159), .val (.ref b91), .unset, .unset] [(.int z155), (.ref b91), (.ref b134), (.ref b91), (.ref b132), (.ref b160), (.ref b160)]) _
        refine go1 (fun _ => XS.iload X160.here hx rfl (hb hby at_148) rfl) ?_
        show Go p.tables e below T160 (mkF m 150 #[.val (.int p1), .val (.int p2), .val (.int p3), .val (.int p4), .val (.int (1 : Int32)), .val (.int z89), .val (.ref b91), .val (.ref b132), .val (.ref b134), .val (.ref b91), .val (.int z155), .val (.int z157), .val (.int z159), .val (.ref b91), .unset, .unset] [(.int z157), (.int z155), (.ref b91), (.ref b134), (.ref b91), (.ref b132), (.ref b160), (.ref b160)]) _
        refine go1 (fun _ => XS.iload X160.here hx rfl (hb hby at_150) rfl) ?_
        show Go p.tables e below T160 (mkF m 152 #[.val (.int p1), .val (.int p2), .val (.int p3), .val (.int p4), .val (.int (1 : Int32)), .val (.int z89), .val (.ref b91), .val (.ref b132), .val (.ref b134), .val (.ref b91), .val (.int z155), .val (.int z157), .val (.int z159), .val (.ref b91), .unset, .unset] [(.int z159), (.int z157), (.int z155), (.ref b91), (.ref b134), (.ref b91), (.ref b132), (.ref b160), (.ref b160)]) _
        obtain ⟨_, _, ⟨T161, L161, k161, n161⟩, -, X161, ⟨Lc161, hQ161, l161, y161, z161⟩, st161⟩ := X160.specialBack hx (y := (⟨"com/example/enrout/enrout/broker/cli/Option", "<init>", "(Ljava/lang/String;Ljava/lang/String;Ljava/lang/String;Ljava/lang/String;ZZZ)V"⟩ : MethodName)) rfl hown133 (mvT hZ133 (hw _ (List.mem_of_getElem? (i := 15) rfl))) (mvT hZ133 (hw _ (List.mem_of_getElem? (i := 16) rfl))) (mvT hZ133 (hw _ (List.mem_of_getElem? (i := 17) rfl))) (by decide) (backOf (W := 1) (rm2 l Z a0 hw [] b160 (.ref b132) (.ref b91) (.ref b134) (.ref b91) z155 z157 z159 h160 n0 (Nat.le_trans (Nat.le_trans (Nat.le_trans (Nat.le_trans Z0 K90.1) E132.1) K133.1) E160.1) F_name_b160 F_value_b160 F_help_b160 F_defaultValue_b160 F_required_b160 F_repeatable_b160 F_several_b160 A160 g_b160 (by first | assumption | decide | rfl) (by first | assumption | decide | rfl) (by first | assumption | decide | rfl) (by first | assumption | decide | rfl)) hZ133 (hw _ (List.mem_of_getElem? (i := 17) rfl)) (hw _ (List.mem_of_getElem? (i := 14) rfl)) (by decide) (by decide)) (g := (mkF m 152 #[.val (.int p1), .val (.int p2), .val (.int p3), .val (.int p4), .val (.int (1 : Int32)), .val (.int z89), .val (.ref b91), .val (.ref b132), .val (.ref b134), .val (.ref b91), .val (.int z155), .val (.int z157), .val (.int z159), .val (.ref b91), .unset, .unset] [(.int z159), (.int z157), (.int z155), (.ref b91), (.ref b134), (.ref b91), (.ref b132), (.ref b160), (.ref b160)])) rfl (by rw [hml]; rfl) (Steps.refl _) (a := b160) (argsL := [(.ref b132), (.ref b91), (.ref b134), (.ref b91), (.int z155), (.int z157), (.int z159)]) (rest := [(.ref b160)]) (lenOf pd0_1 rfl) rfl (by show 2 * 0 + _ ≤ _; exact Nat.le_of_eq rfl) (hb hby at_152) (fun _ _ => ⟨rfl, e160, (by decide : 9 + 0 ≤ _), (by decide : 39 + 0 ≤ _)⟩)
        dsimp only [Pt.U, Pt.locs, Pt.cells, Pt.slots] at X161 l161 y161 z161 st161 hQ161
        subst l161 y161 z161
        obtain ⟨rfl, N161q, K161, G161_0, G161_1⟩ := hQ161
        have N161 := Fr.app N133 N161q
        refine goT st161 ?_
        show Go p.tables e below T161 (mkF m 155 #[.val (.int p1), .val (.int p2), .val (.int p3), .val (.int p4), .val (.int (1 : Int32)), .val (.int z89), .val (.ref b91), .val (.ref b132), .val (.ref b134), .val (.ref b91), .val (.int z155), .val (.int z157), .val (.int z159), .val (.ref b91), .unset, .unset] [(.ref b160)]) _
        refine go1 (fun _ => XS.astore X161.here hx rfl (hb hby at_155) rfl rfl (l' := #[.val (.int p1), .val (.int p2), .val (.int p3), .val (.int p4), .val (.int (1 : Int32)), .val (.int z89), .val (.ref b91), .val (.ref b132), .val (.ref b134), .val (.ref b91), .val (.int z155), .val (.int z157), .val (.int z159), .val (.ref b91), .val (.ref b160), .unset]) rfl) ?_
        show Go p.tables e below T161 (mkF m 157 #[.val (.int p1), .val (.int p2), .val (.int p3), .val (.int p4), .val (.int (1 : Int32)), .val (.int z89), .val (.ref b91), .val (.ref b132), .val (.ref b134), .val (.ref b91), .val (.int z155), .val (.int z157), .val (.int z159), .val (.ref b91), .val (.ref b160), .unset] []) _
        refine go1 (fun _ => XS.aload X161.here hx rfl (hb hby at_157) rfl rfl) ?_
        show Go p.tables e below T161 (mkF m 159 #[.val (.int p1), .val (.int p2), .val (.int p3), .val (.int p4), .val (.int (1 : Int32)), .val (.int z89), .val (.ref b91), .val (.ref b132), .val (.ref b134), .val (.ref b91), .val (.int z155), .val (.int z157), .val (.int z159), .val (.ref b91), .val (.ref b160), .unset] [(.ref b160)]) _
        obtain ⟨cq162, kq162, q162a, q162b, q162c⟩ := isOf hZ133 rfl G161_0
        obtain ⟨_, _, ⟨T162, L162, k162, n162⟩, -, X162, ⟨Lc162, hQ162, l162, y162, z162⟩, st162⟩ := X161.virtualBack hx (y := (⟨"com/example/enrout/enrout/broker/cli/Option", "isFlag", "()Z"⟩ : MethodName)) (z := (⟨"com/example/enrout/enrout/broker/cli/Option", "isFlag", "()Z"⟩ : MethodName)) hown133 (mvT hZ133 (hw _ (List.mem_of_getElem? (i := 40) rfl))) (mvT hZ133 (hw _ (List.mem_of_getElem? (i := 41) rfl))) (notFace_of_selects (args := #[]) (mvT hZ133 (hw _ (List.mem_of_getElem? (i := 43) rfl)))) (mvT hZ133 (hw _ (List.mem_of_getElem? (i := 43) rfl))) (mvT hZ133 (hw _ (List.mem_of_getElem? (i := 42) rfl))) (by decide) (backOf (W := 0) (rmisb l Z a0 hw [] b160 b91 T161.heap n0 (Nat.le_trans (Nat.le_trans (Nat.le_trans (Nat.le_trans (Nat.le_trans Z0 K90.1) E132.1) K133.1) E160.1) K161.1) G161_1) hZ133 (hw _ (List.mem_of_getElem? (i := 44) rfl)) (hw _ (List.mem_of_getElem? (i := 14) rfl)) (by decide) (by decide)) q162a q162c (g := (mkF m 159 #[.val (.int p1), .val (.int p2), .val (.int p3), .val (.int p4), .val (.int (1 : Int32)), .val (.int z89), .val (.ref b91), .val (.ref b132), .val (.ref b134), .val (.ref b91), .val (.int z155), .val (.int z157), .val (.int z159), .val (.ref b91), .val (.ref b160), .unset] [(.ref b160)])) rfl (by rw [hml]; rfl) (Steps.refl _) (argsL := []) (rest := []) (lenOf pd0_2 rfl) rfl (by show 2 * 0 + _ ≤ _; exact Nat.le_of_eq rfl) (hb hby at_159) (fun _ _ => ⟨rfl, rfl, (by decide : 9 + 0 ≤ _), (by decide : 39 + 0 ≤ _)⟩)
        dsimp only [Pt.U, Pt.locs, Pt.cells, Pt.slots] at X162 l162 y162 z162 st162 hQ162
        subst l162 y162 z162
        obtain ⟨rfl, N162q, e162⟩ := hQ162
        have N162 := Fr.app N161 N162q
        refine goT st162 ?_
        show Go p.tables e below T162 (mkF m 162 #[.val (.int p1), .val (.int p2), .val (.int p3), .val (.int p4), .val (.int (1 : Int32)), .val (.int z89), .val (.ref b91), .val (.ref b132), .val (.ref b134), .val (.ref b91), .val (.int z155), .val (.int z157), .val (.int z159), .val (.ref b91), .val (.ref b160), .unset] [(.int (0 : Int32))]) _
        refine go1 (fun _ => XS.iload X162.here hx rfl (hb hby at_162) rfl) ?_
        show Go p.tables e below T162 (mkF m 164 #[.val (.int p1), .val (.int p2), .val (.int p3), .val (.int p4), .val (.int (1 : Int32)), .val (.int z89), .val (.ref b91), .val (.ref b132), .val (.ref b134), .val (.ref b91), .val (.int z155), .val (.int z157), .val (.int z159), .val (.ref b91), .val (.ref b160), .unset] [(.int (1 : Int32)), (.int (0 : Int32))]) _
        refine go1 (fun _ => XS.ifYes X162.here hx rfl (pc0 := 164) (pc' := 171) rfl (hb hby at_164) rfl ((if0 _ _).trans (feq (by decide : ¬ ((1 : Int32) = (0 : Int32)))).2) (by decide) (by decide)) ?_
        show Go p.tables e below T162 (mkF m 171 #[.val (.int p1), .val (.int p2), .val (.int p3), .val (.int p4), .val (.int (1 : Int32)), .val (.int z89), .val (.ref b91), .val (.ref b132), .val (.ref b134), .val (.ref b91), .val (.int z155), .val (.int z157), .val (.int z159), .val (.ref b91), .val (.ref b160), .unset] [(.int (0 : Int32))]) _
        refine go1 (fun _ => XS.iconst X162.here hx rfl (hb hby at_171)) ?_
        show Go p.tables e below T162 (mkF m 172 #[.val (.int p1), .val (.int p2), .val (.int p3), .val (.int p4), .val (.int (1 : Int32)), .val (.int z89), .val (.ref b91), .val (.ref b132), .val (.ref b134), .val (.ref b91), .val (.int z155), .val (.int z157), .val (.int z159), .val (.ref b91), .val (.ref b160), .unset] [(.int (0 : Int32)), (.int (0 : Int32))]) _
        refine go1 (fun _ => XS.icmpNo X162.here hx rfl (hb hby at_172) rfl (teq (by decide : (0 : Int32) = (0 : Int32))).2) ?_
        show Go p.tables e below T162 (mkF m 175 #[.val (.int p1), .val (.int p2), .val (.int p3), .val (.int p4), .val (.int (1 : Int32)), .val (.int z89), .val (.ref b91), .val (.ref b132), .val (.ref b134), .val (.ref b91), .val (.int z155), .val (.int z157), .val (.int z159), .val (.ref b91), .val (.ref b160), .unset] []) _
        refine go1 (fun _ => XS.iconst X162.here hx rfl (hb hby at_175)) ?_
        show Go p.tables e below T162 (mkF m 176 #[.val (.int p1), .val (.int p2), .val (.int p3), .val (.int p4), .val (.int (1 : Int32)), .val (.int z89), .val (.ref b91), .val (.ref b132), .val (.ref b134), .val (.ref b91), .val (.int z155), .val (.int z157), .val (.int z159), .val (.ref b91), .val (.ref b160), .unset] [(.int (1 : Int32))]) _
        refine go1 (fun _ => XS.goto X162.here hx rfl (pc0 := 176) (pc' := 180) rfl (hb hby at_176) (by decide) (by decide)) ?_
        show Go p.tables e below T162 (mkF m 180 #[.val (.int p1), .val (.int p2), .val (.int p3), .val (.int p4), .val (.int (1 : Int32)), .val (.int z89), .val (.ref b91), .val (.ref b132), .val (.ref b134), .val (.ref b91), .val (.int z155), .val (.int z157), .val (.int z159), .val (.ref b91), .val (.ref b160), .unset] [(.int (1 : Int32))]) _
        refine go1 (fun _ => XS.istore X162.here hx rfl (hb hby at_180) rfl (l' := #[.val (.int p1), .val (.int p2), .val (.int p3), .val (.int p4), .val (.int (1 : Int32)), .val (.int z89), .val (.ref b91), .val (.ref b132), .val (.ref b134), .val (.ref b91), .val (.int z155), .val (.int z157), .val (.int z159), .val (.ref b91), .val (.ref b160), .val (.int (1 : Int32))]) rfl) ?_
        show Go p.tables e below T162 (mkF m 182 #[.val (.int p1), .val (.int p2), .val (.int p3), .val (.int p4), .val (.int (1 : Int32)), .val (.int z89), .val (.ref b91), .val (.ref b132), .val (.ref b134), .val (.ref b91), .val (.int z155), .val (.int z157), .val (.int z159), .val (.ref b91), .val (.ref b160), .val (.int (1 : Int32))] []) _
        refine go1 (fun _ => XS.iload X162.here hx rfl (hb hby at_182) rfl) ?_
        show Go p.tables e below T162 (mkF m 184 #[.val (.int p1), .val (.int p2), .val (.int p3), .val (.int p4), .val (.int (1 : Int32)), .val (.int z89), .val (.ref b91), .val (.ref b132), .val (.ref b134), .val (.ref b91), .val (.int z155), .val (.int z157), .val (.int z159), .val (.ref b91), .val (.ref b160), .val (.int (1 : Int32))] [(.int (1 : Int32))]) _
        refine go1 (fun _ => XS.ifNo X162.here hx rfl (hb hby at_184) rfl ((if0 _ _).trans (feq (by decide : ¬ ((1 : Int32) = (0 : Int32)))).1)) ?_
        show Go p.tables e below T162 (mkF m 187 #[.val (.int p1), .val (.int p2), .val (.int p3), .val (.int p4), .val (.int (1 : Int32)), .val (.int z89), .val (.ref b91), .val (.ref b132), .val (.ref b134), .val (.ref b91), .val (.int z155), .val (.int z157), .val (.int z159), .val (.ref b91), .val (.ref b160), .val (.int (1 : Int32))] []) _
        refine go1 (fun _ => XS.aload X162.here hx rfl (hb hby at_187) rfl rfl) ?_
        show Go p.tables e below T162 (mkF m 189 #[.val (.int p1), .val (.int p2), .val (.int p3), .val (.int p4), .val (.int (1 : Int32)), .val (.int z89), .val (.ref b91), .val (.ref b132), .val (.ref b134), .val (.ref b91), .val (.int z155), .val (.int z157), .val (.int z159), .val (.ref b91), .val (.ref b160), .val (.int (1 : Int32))] [(.ref b132)]) _
        refine go1 (fun _ => XS.aload X162.here hx rfl (hb hby at_189) rfl rfl) ?_
        show Go p.tables e below T162 (mkF m 191 #[.val (.int p1), .val (.int p2), .val (.int p3), .val (.int p4), .val (.int (1 : Int32)), .val (.int z89), .val (.ref b91), .val (.ref b132), .val (.ref b134), .val (.ref b91), .val (.int z155), .val (.int z157), .val (.int z159), .val (.ref b91), .val (.ref b160), .val (.int (1 : Int32))] [(.ref b134), (.ref b132)]) _
        obtain ⟨_, _, ⟨T163, L163, k163, n163⟩, -, X163, ⟨Lc163, hQ163, l163, y163, z163⟩, st163⟩ := Jvm.LawKit.callS X162 hx (y := (⟨"com/example/enrout/enrout/broker/cli/Option", "flag", "(Ljava/lang/String;Ljava/lang/String;)Lcom/example/enrout/enrout/broker/cli/Option;"⟩ : MethodName)) hown133 (mvT hZ133 (hw _ (List.mem_of_getElem? (i := 45) rfl))) (mvT hZ133 (hw _ (List.mem_of_getElem? (i := 46) rfl))) (mvT hZ133 (hw _ (List.mem_of_getElem? (i := 14) rfl))) (mvT hZ133 (hw _ (List.mem_of_getElem? (i := 47) rfl))) (by decide) (backOf (W := 0) (rm6 l Z a0 hw [] b132 b134 T161.heap n0 (Nat.le_trans (Nat.le_trans (Nat.le_trans (Nat.le_trans (Nat.le_trans Z0 K90.1) E132.1) K133.1) E160.1) K161.1) ) hZ133 (hw _ (List.mem_of_getElem? (i := 47) rfl)) (hw _ (List.mem_of_getElem? (i := 14) rfl)) (by decide) (by decide)) (g := (mkF m 191 #[.val (.int p1), .val (.int p2), .val (.int p3), .val (.int p4), .val (.int (1 : Int32)), .val (.int z89), .val (.ref b91), .val (.ref b132), .val (.ref b134), .val (.ref b91), .val (.int z155), .val (.int z157), .val (.int z159), .val (.ref b91), .val (.ref b160), .val (.int (1 : Int32))] [(.ref b134), (.ref b132)])) rfl (by rw [hml]; rfl) (argsL := [(.ref b132), (.ref b134)]) (rest := []) (lenOf pd0_3 rfl) rfl (by show 2 * 0 + _ ≤ _; exact Nat.le_of_eq rfl) (hb hby at_191) (fun _ _ => ⟨rfl, e162, (by decide : 9 + 1 ≤ _), (by decide : 39 + 7 ≤ _)⟩)
        dsimp only [Pt.U, Pt.locs, Pt.cells, Pt.slots] at X163 l163 y163 z163 st163 hQ163
        subst l163 y163 z163
        obtain ⟨b164, rfl, N163q, K163, G163_0, G163_1⟩ := hQ163
        have N163 := Fr.app N162 N163q
        refine go1 st163 ?_
        show Go p.tables e below T163 (mkF m 194 #[.val (.int p1), .val (.int p2), .val (.int p3), .val (.int p4), .val (.int (1 : Int32)), .val (.int z89), .val (.ref b91), .val (.ref b132), .val (.ref b134), .val (.ref b91), .val (.int z155), .val (.int z157), .val (.int z159), .val (.ref b91), .val (.ref b160), .val (.int (1 : Int32))] [(.ref b164)]) _
        obtain ⟨cq165, kq165, q165a, q165b, q165c⟩ := isOf hZ133 rfl G163_0
        obtain ⟨_, _, ⟨T165, L165, k165, n165⟩, -, X165, ⟨Lc165, hQ165, l165, y165, z165⟩, st165⟩ := X163.virtualBack hx (y := (⟨"com/example/enrout/enrout/broker/cli/Option", "isFlag", "()Z"⟩ : MethodName)) (z := (⟨"com/example/enrout/enrout/broker/cli/Option", "isFlag", "()Z"⟩ : MethodName)) hown133 (mvT hZ133 (hw _ (List.mem_of_getElem? (i := 40) rfl))) (mvT hZ133 (hw _ (List.mem_of_getElem? (i := 41) rfl))) (notFace_of_selects (args := #[]) (mvT hZ133 (hw _ (List.mem_of_getElem? (i := 43) rfl)))) (mvT hZ133 (hw _ (List.mem_of_getElem? (i := 43) rfl))) (mvT hZ133 (hw _ (List.mem_of_getElem? (i := 42) rfl))) (by decide) (backOf (W := 0) (rmisa l Z a0 hw [] b164 T163.heap n0 (Nat.le_trans (Nat.le_trans (Nat.le_trans (Nat.le_trans (Nat.le_trans (Nat.le_trans Z0 K90.1) E132.1) K133.1) E160.1) K161.1) K163.1) G163_1) hZ133 (hw _ (List.mem_of_getElem? (i := 44) rfl)) (hw _ (List.mem_of_getElem? (i := 14) rfl)) (by decide) (by decide)) q165a q165c (g := (mkF m 194 #[.val (.int p1), .val (.int p2), .val (.int p3), .val (.int p4), .val (.int (1 : Int32)), .val (.int z89), .val (.ref b91), .val (.ref b132), .val (.ref b134), .val (.ref b91), .val (.int z155), .val (.int z157), .val (.int z159), .val (.ref b91), .val (.ref b160), .val (.int (1 : Int32))] [(.ref b164)])) rfl (by rw [hml]; rfl) (Steps.refl _) (argsL := []) (rest := []) (lenOf pd0_2 rfl) rfl (by show 2 * 0 + _ ≤ _; exact Nat.le_of_eq rfl) (hb hby at_194) (fun _ _ => ⟨rfl, rfl, (by decide : 10 + 0 ≤ _), (by decide : 46 + 0 ≤ _)⟩)
        dsimp only [Pt.U, Pt.locs, Pt.cells, Pt.slots] at X165 l165 y165 z165 st165 hQ165
        subst l165 y165 z165
        obtain ⟨rfl, N165q, e165⟩ := hQ165
        have N165 := Fr.app N163 N165q
        refine goT st165 ?_
        show Go p.tables e below T165 (mkF m 197 #[.val (.int p1), .val (.int p2), .val (.int p3), .val (.int p4), .val (.int (1 : Int32)), .val (.int z89), .val (.ref b91), .val (.ref b132), .val (.ref b134), .val (.ref b91), .val (.int z155), .val (.int z157), .val (.int z159), .val (.ref b91), .val (.ref b160), .val (.int (1 : Int32))] [(.int (1 : Int32))]) _
        refine go1 (fun _ => XS.ifNo X165.here hx rfl (hb hby at_197) rfl ((if0 _ _).trans (feq (by decide : ¬ ((1 : Int32) = (0 : Int32)))).1)) ?_
        show Go p.tables e below T165 (mkF m 200 #[.val (.int p1), .val (.int p2), .val (.int p3), .val (.int p4), .val (.int (1 : Int32)), .val (.int z89), .val (.ref b91), .val (.ref b132), .val (.ref b134), .val (.ref b91), .val (.int z155), .val (.int z157), .val (.int z159), .val (.ref b91), .val (.ref b160), .val (.int (1 : Int32))] []) _
        refine go1 (fun _ => XS.iconst X165.here hx rfl (hb hby at_200)) ?_
        show Go p.tables e below T165 (mkF m 201 #[.val (.int p1), .val (.int p2), .val (.int p3), .val (.int p4), .val (.int (1 : Int32)), .val (.int z89), .val (.ref b91), .val (.ref b132), .val (.ref b134), .val (.ref b91), .val (.int z155), .val (.int z157), .val (.int z159), .val (.ref b91), .val (.ref b160), .val (.int (1 : Int32))] [(.int (1 : Int32))]) _
        refine go1 (fun _ => XS.goto X165.here hx rfl (pc0 := 201) (pc' := 205) rfl (hb hby at_201) (by decide) (by decide)) ?_
        show Go p.tables e below T165 (mkF m 205 #[.val (.int p1), .val (.int p2), .val (.int p3), .val (.int p4), .val (.int (1 : Int32)), .val (.int z89), .val (.ref b91), .val (.ref b132), .val (.ref b134), .val (.ref b91), .val (.int z155), .val (.int z157), .val (.int z159), .val (.ref b91), .val (.ref b160), .val (.int (1 : Int32))] [(.int (1 : Int32))]) _
        refine go1 (fun _ => XS.istore X165.here hx rfl (hb hby at_205) rfl (l' := #[.val (.int p1), .val (.int p2), .val (.int p3), .val (.int p4), .val (.int (1 : Int32)), .val (.int z89), .val (.ref b91), .val (.ref b132), .val (.ref b134), .val (.ref b91), .val (.int z155), .val (.int z157), .val (.int z159), .val (.ref b91), .val (.ref b160), .val (.int (1 : Int32))]) rfl) ?_
        show Go p.tables e below T165 (mkF m 207 #[.val (.int p1), .val (.int p2), .val (.int p3), .val (.int p4), .val (.int (1 : Int32)), .val (.int z89), .val (.ref b91), .val (.ref b132), .val (.ref b134), .val (.ref b91), .val (.int z155), .val (.int z157), .val (.int z159), .val (.ref b91), .val (.ref b160), .val (.int (1 : Int32))] []) _
        refine go1 (fun _ => XS.iload X165.here hx rfl (hb hby at_207) rfl) ?_
        show Go p.tables e below T165 (mkF m 209 #[.val (.int p1), .val (.int p2), .val (.int p3), .val (.int p4), .val (.int (1 : Int32)), .val (.int z89), .val (.ref b91), .val (.ref b132), .val (.ref b134), .val (.ref b91), .val (.int z155), .val (.int z157), .val (.int z159), .val (.ref b91), .val (.ref b160), .val (.int (1 : Int32))] [(.int (1 : Int32))]) _
        refine go1 (fun _ => XS.ifNo X165.here hx rfl (hb hby at_209) rfl ((if0 _ _).trans (feq (by decide : ¬ ((1 : Int32) = (0 : Int32)))).1)) ?_
        show Go p.tables e below T165 (mkF m 212 #[.val (.int p1), .val (.int p2), .val (.int p3), .val (.int p4), .val (.int (1 : Int32)), .val (.int z89), .val (.ref b91), .val (.ref b132), .val (.ref b134), .val (.ref b91), .val (.int z155), .val (.int z157), .val (.int z159), .val (.ref b91), .val (.ref b160), .val (.int (1 : Int32))] []) _
        refine go1 (fun _ => XS.aload X165.here hx rfl (hb hby at_212) rfl rfl) ?_
        show Go p.tables e below T165 (mkF m 214 #[.val (.int p1), .val (.int p2), .val (.int p3), .val (.int p4), .val (.int (1 : Int32)), .val (.int z89), .val (.ref b91), .val (.ref b132), .val (.ref b134), .val (.ref b91), .val (.int z155), .val (.int z157), .val (.int z159), .val (.ref b91), .val (.ref b160), .val (.int (1 : Int32))] [(.ref b91)]) _
        refine go1 (fun _ => XS.aload X165.here hx rfl (hb hby at_214) rfl rfl) ?_
        show Go p.tables e below T165 (mkF m 216 #[.val (.int p1), .val (.int p2), .val (.int p3), .val (.int p4), .val (.int (1 : Int32)), .val (.int z89), .val (.ref b91), .val (.ref b132), .val (.ref b134), .val (.ref b91), .val (.int z155), .val (.int z157), .val (.int z159), .val (.ref b91), .val (.ref b160), .val (.int (1 : Int32))] [(.ref b134), (.ref b91)]) _
        obtain ⟨_, _, ⟨T166, L166, k166, n166⟩, -, X166, ⟨Lc166, hQ166, l166, y166, z166⟩, st166⟩ := Jvm.LawKit.callS X165 hx (y := (⟨"com/example/enrout/enrout/broker/cli/Option", "operand", "(Ljava/lang/String;Ljava/lang/String;)Lcom/example/enrout/enrout/broker/cli/Option;"⟩ : MethodName)) hown133 (mvT hZ133 (hw _ (List.mem_of_getElem? (i := 50) rfl))) (mvT hZ133 (hw _ (List.mem_of_getElem? (i := 51) rfl))) (mvT hZ133 (hw _ (List.mem_of_getElem? (i := 14) rfl))) (mvT hZ133 (hw _ (List.mem_of_getElem? (i := 52) rfl))) (by decide) (backOf (W := 0) (rm7 l Z a0 hw [] b91 b134 T163.heap n0 (Nat.le_trans (Nat.le_trans (Nat.le_trans (Nat.le_trans (Nat.le_trans (Nat.le_trans Z0 K90.1) E132.1) K133.1) E160.1) K161.1) K163.1) ) hZ133 (hw _ (List.mem_of_getElem? (i := 52) rfl)) (hw _ (List.mem_of_getElem? (i := 14) rfl)) (by decide) (by decide)) (g := (mkF m 216 #[.val (.int p1), .val (.int p2), .val (.int p3), .val (.int p4), .val (.int (1 : Int32)), .val (.int z89), .val (.ref b91), .val (.ref b132), .val (.ref b134), .val (.ref b91), .val (.int z155), .val (.int z157), .val (.int z159), .val (.ref b91), .val (.ref b160), .val (.int (1 : Int32))] [(.ref b134), (.ref b91)])) rfl (by rw [hml]; rfl) (argsL := [(.ref b91), (.ref b134)]) (rest := []) (lenOf pd0_3 rfl) rfl (by show 2 * 0 + _ ≤ _; exact Nat.le_of_eq rfl) (hb hby at_216) (fun _ _ => ⟨rfl, e165, (by decide : 10 + 1 ≤ _), (by decide : 46 + 7 ≤ _)⟩)
        dsimp only [Pt.U, Pt.locs, Pt.cells, Pt.slots] at X166 l166 y166 z166 st166 hQ166
        subst l166 y166 z166
        obtain ⟨b167, rfl, N166q, K166, G166_0, G166_1⟩ := hQ166
        have N166 := Fr.app N165 N166q
        refine go1 st166 ?_
        show Go p.tables e below T166 (mkF m 219 #[.val (.int p1), .val (.int p2), .val (.int p3), .val (.int p4), .val (.int (1 : Int32)), .val (.int z89), .val (.ref b91), .val (.ref b132), .val (.ref b134), .val (.ref b91), .val (.int z155), .val (.int z157), .val (.int z159), .val (.ref b91), .val (.ref b160), .val (.int (1 : Int32))] [(.ref b167)]) _
        obtain ⟨cq168, kq168, q168a, q168b, q168c⟩ := isOf hZ133 rfl G166_0
        obtain ⟨_, _, ⟨T168, L168, k168, n168⟩, -, X168, ⟨Lc168, hQ168, l168, y168, z168⟩, st168⟩ := X166.virtualBack hx (y := (⟨"com/example/enrout/enrout/broker/cli/Option", "isFlag", "()Z"⟩ : MethodName)) (z := (⟨"com/example/enrout/enrout/broker/cli/Option", "isFlag", "()Z"⟩ : MethodName)) hown133 (mvT hZ133 (hw _ (List.mem_of_getElem? (i := 40) rfl))) (mvT hZ133 (hw _ (List.mem_of_getElem? (i := 41) rfl))) (notFace_of_selects (args := #[]) (mvT hZ133 (hw _ (List.mem_of_getElem? (i := 43) rfl)))) (mvT hZ133 (hw _ (List.mem_of_getElem? (i := 43) rfl))) (mvT hZ133 (hw _ (List.mem_of_getElem? (i := 42) rfl))) (by decide) (backOf (W := 0) (rmisb l Z a0 hw [] b167 b91 T166.heap n0 (Nat.le_trans (Nat.le_trans (Nat.le_trans (Nat.le_trans (Nat.le_trans (Nat.le_trans (Nat.le_trans Z0 K90.1) E132.1) K133.1) E160.1) K161.1) K163.1) K166.1) G166_1) hZ133 (hw _ (List.mem_of_getElem? (i := 44) rfl)) (hw _ (List.mem_of_getElem? (i := 14) rfl)) (by decide) (by decide)) q168a q168c (g := (mkF m 219 #[.val (.int p1), .val (.int p2), .val (.int p3), .val (.int p4), .val (.int (1 : Int32)), .val (.int z89), .val (.ref b91), .val (.ref b132), .val (.ref b134), .val (.ref b91), .val (.int z155), .val (.int z157), .val (.int z159), .val (.ref b91), .val (.ref b160), .val (.int (1 : Int32))] [(.ref b167)])) rfl (by rw [hml]; rfl) (Steps.refl _) (argsL := []) (rest := []) (lenOf pd0_2 rfl) rfl (by show 2 * 0 + _ ≤ _; exact Nat.le_of_eq rfl) (hb hby at_219) (fun _ _ => ⟨rfl, rfl, (by decide : 11 + 0 ≤ _), (by decide : 53 + 0 ≤ _)⟩)
        dsimp only [Pt.U, Pt.locs, Pt.cells, Pt.slots] at X168 l168 y168 z168 st168 hQ168
        subst l168 y168 z168
        obtain ⟨rfl, N168q, e168⟩ := hQ168
        have N168 := Fr.app N166 N168q
        refine goT st168 ?_
        show Go p.tables e below T168 (mkF m 222 #[.val (.int p1), .val (.int p2), .val (.int p3), .val (.int p4), .val (.int (1 : Int32)), .val (.int z89), .val (.ref b91), .val (.ref b132), .val (.ref b134), .val (.ref b91), .val (.int z155), .val (.int z157), .val (.int z159), .val (.ref b91), .val (.ref b160), .val (.int (1 : Int32))] [(.int (0 : Int32))]) _
        refine go1 (fun _ => XS.ifNo X168.here hx rfl (hb hby at_222) rfl ((if0 _ _).trans (teq (by decide : (0 : Int32) = (0 : Int32))).2)) ?_
        show Go p.tables e below T168 (mkF m 225 #[.val (.int p1), .val (.int p2), .val (.int p3), .val (.int p4), .val (.int (1 : Int32)), .val (.int z89), .val (.ref b91), .val (.ref b132), .val (.ref b134), .val (.ref b91), .val (.int z155), .val (.int z157), .val (.int z159), .val (.ref b91), .val (.ref b160), .val (.int (1 : Int32))] []) _
        refine go1 (fun _ => XS.iconst X168.here hx rfl (hb hby at_225)) ?_
        show Go p.tables e below T168 (mkF m 226 #[.val (.int p1), .val (.int p2), .val (.int p3), .val (.int p4), .val (.int (1 : Int32)), .val (.int z89), .val (.ref b91), .val (.ref b132), .val (.ref b134), .val (.ref b91), .val (.int z155), .val (.int z157), .val (.int z159), .val (.ref b91), .val (.ref b160), .val (.int (1 : Int32))] [(.int (1 : Int32))]) _
        refine go1 (fun _ => XS.goto X168.here hx rfl (pc0 := 226) (pc' := 230) rfl (hb hby at_226) (by decide) (by decide)) ?_
        show Go p.tables e below T168 (mkF m 230 #[.val (.int p1), .val (.int p2), .val (.int p3), .val (.int p4), .val (.int (1 : Int32)), .val (.int z89), .val (.ref b91), .val (.ref b132), .val (.ref b134), .val (.ref b91), .val (.int z155), .val (.int z157), .val (.int z159), .val (.ref b91), .val (.ref b160), .val (.int (1 : Int32))] [(.int (1 : Int32))]) _
        refine go1 (fun _ => XS.istore X168.here hx rfl (hb hby at_230) rfl (l' := #[.val (.int p1), .val (.int p2), .val (.int p3), .val (.int p4), .val (.int (1 : Int32)), .val (.int z89), .val (.ref b91), .val (.ref b132), .val (.ref b134), .val (.ref b91), .val (.int z155), .val (.int z157), .val (.int z159), .val (.ref b91), .val (.ref b160), .val (.int (1 : Int32))]) rfl) ?_
        show Go p.tables e below T168 (mkF m 232 #[.val (.int p1), .val (.int p2), .val (.int p3), .val (.int p4), .val (.int (1 : Int32)), .val (.int z89), .val (.ref b91), .val (.ref b132), .val (.ref b134), .val (.ref b91), .val (.int z155), .val (.int z157), .val (.int z159), .val (.ref b91), .val (.ref b160), .val (.int (1 : Int32))] []) _
        refine go1 (fun _ => XS.iload X168.here hx rfl (hb hby at_232) rfl) ?_
        show Go p.tables e below T168 (mkF m 234 #[.val (.int p1), .val (.int p2), .val (.int p3), .val (.int p4), .val (.int (1 : Int32)), .val (.int z89), .val (.ref b91), .val (.ref b132), .val (.ref b134), .val (.ref b91), .val (.int z155), .val (.int z157), .val (.int z159), .val (.ref b91), .val (.ref b160), .val (.int (1 : Int32))] [(.int (1 : Int32))]) _
        refine go1 (fun _ => XS.ifNo X168.here hx rfl (hb hby at_234) rfl ((if0 _ _).trans (feq (by decide : ¬ ((1 : Int32) = (0 : Int32)))).1)) ?_
        show Go p.tables e below T168 (mkF m 237 #[.val (.int p1), .val (.int p2), .val (.int p3), .val (.int p4), .val (.int (1 : Int32)), .val (.int z89), .val (.ref b91), .val (.ref b132), .val (.ref b134), .val (.ref b91), .val (.int z155), .val (.int z157), .val (.int z159), .val (.ref b91), .val (.ref b160), .val (.int (1 : Int32))] []) _
        refine go1 (fun _ => XS.aload X168.here hx rfl (hb hby at_237) rfl rfl) ?_
        show Go p.tables e below T168 (mkF m 239 #[.val (.int p1), .val (.int p2), .val (.int p3), .val (.int p4), .val (.int (1 : Int32)), .val (.int z89), .val (.ref b91), .val (.ref b132), .val (.ref b134), .val (.ref b91), .val (.int z155), .val (.int z157), .val (.int z159), .val (.ref b91), .val (.ref b160), .val (.int (1 : Int32))] [(.ref b132)]) _
        refine go1 (fun _ => XS.aload X168.here hx rfl (hb hby at_239) rfl rfl) ?_
        show Go p.tables e below T168 (mkF m 241 #[.val (.int p1), .val (.int p2), .val (.int p3), .val (.int p4), .val (.int (1 : Int32)), .val (.int z89), .val (.ref b91), .val (.ref b132), .val (.ref b134), .val (.ref b91), .val (.int z155), .val (.int z157), .val (.int z159), .val (.ref b91), .val (.ref b160), .val (.int (1 : Int32))] [(.ref b91), (.ref b132)]) _
        refine go1 (fun _ => XS.aload X168.here hx rfl (hb hby at_241) rfl rfl) ?_
        show Go p.tables e below T168 (mkF m 243 #[.val (.int p1), .val (.int p2), .val (.int p3), .val (.int p4), .val (.int (1 : Int32)), .val (.int z89), .val (.ref b91), .val (.ref b132), .val (.ref b134), .val (.ref b91), .val (.int z155), .val (.int z157), .val (.int z159), .val (.ref b91), .val (.ref b160), .val (.int (1 : Int32))] [(.ref b134), (.ref b91), (.ref b132)]) _
        obtain ⟨_, _, ⟨T169, L169, k169, n169⟩, -, X169, ⟨Lc169, hQ169, l169, y169, z169⟩, st169⟩ := Jvm.LawKit.callS X168 hx (y := (⟨"com/example/enrout/enrout/broker/cli/Option", "optional", "(Ljava/lang/String;Ljava/lang/String;Ljava/lang/String;)Lcom/example/enrout/enrout/broker/cli/Option;"⟩ : MethodName)) hown133 (mvT hZ133 (hw _ (List.mem_of_getElem? (i := 53) rfl))) (mvT hZ133 (hw _ (List.mem_of_getElem? (i := 54) rfl))) (mvT hZ133 (hw _ (List.mem_of_getElem? (i := 14) rfl))) (mvT hZ133 (hw _ (List.mem_of_getElem? (i := 55) rfl))) (by decide) (backOf (W := 0) (rm8 l Z a0 hw [] b132 b91 b134 T166.heap n0 (Nat.le_trans (Nat.le_trans (Nat.le_trans (Nat.le_trans (Nat.le_trans (Nat.le_trans (Nat.le_trans Z0 K90.1) E132.1) K133.1) E160.1) K161.1) K163.1) K166.1) ) hZ133 (hw _ (List.mem_of_getElem? (i := 55) rfl)) (hw _ (List.mem_of_getElem? (i := 14) rfl)) (by decide) (by decide)) (g := (mkF m 243 #[.val (.int p1), .val (.int p2), .val (.int p3), .val (.int p4), .val (.int (1 : Int32)), .val (.int z89), .val (.ref b91), .val (.ref b132), .val (.ref b134), .val (.ref b91), .val (.int z155), .val (.int z157), .val (.int z159), .val (.ref b91), .val (.ref b160), .val (.int (1 : Int32))] [(.ref b134), (.ref b91), (.ref b132)])) rfl (by rw [hml]; rfl) (argsL := [(.ref b132), (.ref b91), (.ref b134)]) (rest := []) (lenOf pd0_4 rfl) rfl (by show 2 * 0 + _ ≤ _; exact Nat.le_of_eq rfl) (hb hby at_243) (fun _ _ => ⟨rfl, e168, (by decide : 11 + 1 ≤ _), (by decide : 53 + 7 ≤ _)⟩)
        dsimp only [Pt.U, Pt.locs, Pt.cells, Pt.slots] at X169 l169 y169 z169 st169 hQ169
        subst l169 y169 z169
        obtain ⟨b170, rfl, N169q, K169, G169_0, G169_1⟩ := hQ169
        have N169 := Fr.app N168 N169q
        refine go1 st169 ?_
        show Go p.tables e below T169 (mkF m 246 #[.val (.int p1), .val (.int p2), .val (.int p3), .val (.int p4), .val (.int (1 : Int32)), .val (.int z89), .val (.ref b91), .val (.ref b132), .val (.ref b134), .val (.ref b91), .val (.int z155), .val (.int z157), .val (.int z159), .val (.ref b91), .val (.ref b160), .val (.int (1 : Int32))] [(.ref b170)]) _
        obtain ⟨cq171, kq171, q171a, q171b, q171c⟩ := isOf hZ133 rfl G169_0
        obtain ⟨_, _, ⟨T171, L171, k171, n171⟩, -, X171, ⟨Lc171, hQ171, l171, y171, z171⟩, st171⟩ := X169.virtualBack hx (y := (⟨"com/example/enrout/enrout/broker/cli/Option", "isFlag", "()Z"⟩ : MethodName)) (z := (⟨"com/example/enrout/enrout/broker/cli/Option", "isFlag", "()Z"⟩ : MethodName)) hown133 (mvT hZ133 (hw _ (List.mem_of_getElem? (i := 40) rfl))) (mvT hZ133 (hw _ (List.mem_of_getElem? (i := 41) rfl))) (notFace_of_selects (args := #[]) (mvT hZ133 (hw _ (List.mem_of_getElem? (i := 43) rfl)))) (mvT hZ133 (hw _ (List.mem_of_getElem? (i := 43) rfl))) (mvT hZ133 (hw _ (List.mem_of_getElem? (i := 42) rfl))) (by decide) (backOf (W := 0) (rmisb l Z a0 hw [] b170 b91 T169.heap n0 (Nat.le_trans (Nat.le_trans (Nat.le_trans (Nat.le_trans (Nat.le_trans (Nat.le_trans (Nat.le_trans (Nat.le_trans Z0 K90.1) E132.1) K133.1) E160.1) K161.1) K163.1) K166.1) K169.1) G169_1) hZ133 (hw _ (List.mem_of_getElem? (i := 44) rfl)) (hw _ (List.mem_of_getElem? (i := 14) rfl)) (by decide) (by decide)) q171a q171c (g := (mkF m 246 #[.val (.int p1), .val (.int p2), .val (.int p3), .val (.int p4), .val (.int (1 : Int32)), .val (.int z89), .val (.ref b91), .val (.ref b132), .val (.ref b134), .val (.ref b91), .val (.int z155), .val (.int z157), .val (.int z159), .val (.ref b91), .val (.ref b160), .val (.int (1 : Int32))] [(.ref b170)])) rfl (by rw [hml]; rfl) (Steps.refl _) (argsL := []) (rest := []) (lenOf pd0_2 rfl) rfl (by show 2 * 0 + _ ≤ _; exact Nat.le_of_eq rfl) (hb hby at_246) (fun _ _ => ⟨rfl, rfl, (by decide : 12 + 0 ≤ _), (by decide : 60 + 0 ≤ _)⟩)
        dsimp only [Pt.U, Pt.locs, Pt.cells, Pt.slots] at X171 l171 y171 z171 st171 hQ171
        subst l171 y171 z171
        obtain ⟨rfl, N171q, e171⟩ := hQ171
        have N171 := Fr.app N169 N171q
        refine goT st171 ?_
        show Go p.tables e below T171 (mkF m 249 #[.val (.int p1), .val (.int p2), .val (.int p3), .val (.int p4), .val (.int (1 : Int32)), .val (.int z89), .val (.ref b91), .val (.ref b132), .val (.ref b134), .val (.ref b91), .val (.int z155), .val (.int z157), .val (.int z159), .val (.ref b91), .val (.ref b160), .val (.int (1 : Int32))] [(.int (0 : Int32))]) _
        refine go1 (fun _ => XS.ifNo X171.here hx rfl (hb hby at_249) rfl ((if0 _ _).trans (teq (by decide : (0 : Int32) = (0 : Int32))).2)) ?_
        show Go p.tables e below T171 (mkF m 252 #[.val (.int p1), .val (.int p2), .val (.int p3), .val (.int p4), .val (.int (1 : Int32)), .val (.int z89), .val (.ref b91), .val (.ref b132), .val (.ref b134), .val (.ref b91), .val (.int z155), .val (.int z157), .val (.int z159), .val (.ref b91), .val (.ref b160), .val (.int (1 : Int32))] []) _
        refine go1 (fun _ => XS.iconst X171.here hx rfl (hb hby at_252)) ?_
        show Go p.tables e below T171 (mkF m 253 #[.val (.int p1), .val (.int p2), .val (.int p3), .val (.int p4), .val (.int (1 : Int32)), .val (.int z89), .val (.ref b91), .val (.ref b132), .val (.ref b134), .val (.ref b91), .val (.int z155), .val (.int z157), .val (.int z159), .val (.ref b91), .val (.ref b160), .val (.int (1 : Int32))] [(.int (1 : Int32))]) _
        refine go1 (fun _ => XS.goto X171.here hx rfl (pc0 := 253) (pc' := 257) rfl (hb hby at_253) (by decide) (by decide)) ?_
        show Go p.tables e below T171 (mkF m 257 #[.val (.int p1), .val (.int p2), .val (.int p3), .val (.int p4), .val (.int (1 : Int32)), .val (.int z89), .val (.ref b91), .val (.ref b132), .val (.ref b134), .val (.ref b91), .val (.int z155), .val (.int z157), .val (.int z159), .val (.ref b91), .val (.ref b160), .val (.int (1 : Int32))] [(.int (1 : Int32))]) _
        refine go1 (fun _ => XS.istore X171.here hx rfl (hb hby at_257) rfl (l' := #[.val (.int p1), .val (.int p2), .val (.int p3), .val (.int p4), .val (.int (1 : Int32)), .val (.int z89), .val (.ref b91), .val (.ref b132), .val (.ref b134), .val (.ref b91), .val (.int z155), .val (.int z157), .val (.int z159), .val (.ref b91), .val (.ref b160), .val (.int (1 : Int32))]) rfl) ?_
        show Go p.tables e below T171 (mkF m 259 #[.val (.int p1), .val (.int p2), .val (.int p3), .val (.int p4), .val (.int (1 : Int32)), .val (.int z89), .val (.ref b91), .val (.ref b132), .val (.ref b134), .val (.ref b91), .val (.int z155), .val (.int z157), .val (.int z159), .val (.ref b91), .val (.ref b160), .val (.int (1 : Int32))] []) _
        refine go1 (fun _ => XS.iload X171.here hx rfl (hb hby at_259) rfl) ?_
        show Go p.tables e below T171 (mkF m 261 #[.val (.int p1), .val (.int p2), .val (.int p3), .val (.int p4), .val (.int (1 : Int32)), .val (.int z89), .val (.ref b91), .val (.ref b132), .val (.ref b134), .val (.ref b91), .val (.int z155), .val (.int z157), .val (.int z159), .val (.ref b91), .val (.ref b160), .val (.int (1 : Int32))] [(.int (1 : Int32))]) _
        refine goRW (s := s) (vm₁ := T133.vm) X171 hS133 (by rw [e171]; exact (Nat.le_trans (Nat.le_trans (Nat.le_trans (Nat.le_trans (Nat.le_trans (Nat.le_refl _) E160.1) K161.1) K163.1) K166.1) K169.1)) (BodyLoose.notSynchronized Bd) (v := (some (.int (1 : Int32)))) (fun h => by rw [Bd.returns] at h; cases h) (Q0 Z p1 p2 p3 p4 a_COMPACT_STRINGS h0 n0) (fun fs hr => retN X171 hx (t := .boolean) Bd.returns (by simp) (hb hby at_261) hr) (by decide) (by decide) ?_
        show Q0 Z p1 p2 p3 p4 a_COMPACT_STRINGS h0 n0 _ T171.heap _
        rw [e171]
        exact ⟨rfl, N171⟩
set_option maxRecDepth 65536 in
set_option maxHeartbeats 40000000 in
theorem comes_1 {Post : Tables → Env → Array Value → State → Outcome → State → Prop} (hpost : ∀ tb e args s v u, (limb_1_1.after args s (.returned v) u = true ∧ limb_1_2.after args s (.returned v) u = true ∧ True) → ReturnedEndW s (.returned v) u (Jvm.fieldLocs frame_1_writes args s ++ Jvm.arrayLocs frame_1_arrays args s ++ Jvm.staticLocs frame_1_statics s) 32 2240 → Post tb e args s (.returned v) u) :
    ArmFor flags0 classFile x code maxLocals ret World_1 tables_1 room_1 Calls_1 rest_1 Pre_1 Post := by
  intro l hfl _ _ p e ha hc hk s m args below hf hA hF happ hP
  obtain ⟨hcalls, hrest, hpre⟩ := hP
  obtain ⟨-, -, -, hnamed, -, -, -, hat⟩ := (Spec.applies_iff hf).mp happ
  obtain ⟨hg, hn⟩ := and_e (Cond.before_iff.mp (show (Jvm.Cond.and given_1 narrow_1).before args s = true from hpre))
  obtain ⟨gc, q0⟩ := and_e hg
  obtain ⟨ga0, q1⟩ := and_e q0
  obtain ⟨ga1, q2⟩ := and_e q1
  obtain ⟨ga2, q3⟩ := and_e q2
  have ga3 := q3
  obtain ⟨w0, w1, w2, w3, rfl⟩ : ∃ w0 w1 w2 w3 : Value, args = #[w0, w1, w2, w3] := by
    have hs : args.size = 4 := by simpa [Cond.value, given_1] using gc
    obtain ⟨L⟩ := args
    match L, hs with
    | [w0, w1, w2, w3], _ => exact ⟨w0, w1, w2, w3, rfl⟩
  have hw := fun d (hd : d ∈ tables_1) => atoms_spec (ws := Jvm.Cond.code x code maxLocals ret :: tables_1) hat d (List.mem_cons_of_mem _ hd)
  have hfit : Fit s := fun {y c} hc i hi => by
    obtain ⟨ha, rfl⟩ := Array.getElem?_eq_some_iff.mp hc
    have q := List.all_eq_true.mp ((Array.all_eq_true_iff_forall_mem.mp hF) _ (Array.getElem_mem ha)) i (List.mem_range.mpr hi)
    simpa [Array.getElem?_eq_getElem hi] using q
  obtain ⟨hsets, hown0⟩ := atoms_of _ (rest_1_c_eq ▸ (show rest_1_c.before _ s = true from hrest))
  obtain ⟨i0, ei0⟩ := is_v ga0
  obtain rfl : w0 = (.int i0) := Option.some.inj ei0
  obtain ⟨i1, ei1⟩ := is_v ga1
  obtain rfl : w1 = (.int i1) := Option.some.inj ei1
  obtain ⟨i2, ei2⟩ := is_v ga2
  obtain rfl : w2 = (.int i2) := Option.some.inj ei2
  obtain ⟨i3, ei3⟩ := is_v ga3
  obtain rfl : w3 = (.int i3) := Option.some.inj ei3
  obtain ⟨a_COMPACT_STRINGS, ev_a_COMPACT_STRINGS⟩ := is_v (Cond.before_iff.mp (hsets _ (List.mem_of_getElem? (i := 1) rfl)))
  have S_a_COMPACT_STRINGS := Sta.start ev_a_COMPACT_STRINGS (Or.inl (hsets _ (List.mem_of_getElem? (i := 0) rfl)))
  have P_a_COMPACT_STRINGS : ¬ (a_COMPACT_STRINGS = (0 : Int32)) := gotF (Cond.eq_ints ev_a_COMPACT_STRINGS (Term.int_eval (0 : Int32))) (not_v (Cond.before_iff.mp (hsets _ (List.mem_of_getElem? (i := 2) rfl))))
  obtain ⟨n, o, h1, h2, h3, _, L, rfl, ⟨rfl, N⟩, hq⟩ := rm0 l s _ hw tables_1 i0 i1 i2 i3 a_COMPACT_STRINGS s.heap s.heap.size (Nat.le_refl _) (Old.start s) S_a_COMPACT_STRINGS P_a_COMPACT_STRINGS p e ha hc hk s m _ below hf ((Spec.applies_iff_loose hf).mp happ).1 ⟨rfl, State.Warmed39.refl s, rfl⟩ trivial
  refine ⟨n, _, h1, h2, h3, hpost _ _ _ _ _ _ ⟨Cond.after_iff.mpr rfl, Cond.after_iff.mpr (eq_i res_at (Term.int_eval (1)) rfl), trivial⟩ ⟨hq.1, hq.2.1, hq.2.2.1, (hq.2.2.2.sift fun y hy => Or.inr (N y hy)).mono (by decide) (by decide)⟩⟩
theorem main_1_1 : Claimed_1_1 := comes_1 fun _ _ _ _ _ _ h hF => ⟨h.1, hF⟩
theorem main_1_2 : Claimed_1_2 := comes_1 fun _ _ _ _ _ _ h hF => ⟨h.2.1, hF⟩
end Jvm.Pilot.@@N@@
namespace Jvm.Pilot.@@N@@
open Jvm Jvm.ClassFile Sem Op Lib Jvm.Free Jvm.Stand Jvm.Pilot.@@N@@.Jvm.D
/-! MADE BY PROGRAM (witnessworld.py) out of the Statement's table words and the real class files: 21 classes; the members and pool entries that the words name. The judged class is class 1, her method 2. -/
namespace start1
open Jvm.ClassFile
def u (s : String) : CpInfo := .utf8 (stringToUtf16 s)
/-- a pool by its gaps: so many unusable entries, then the entry; so many at the end -/
def gap : Nat → List CpInfo → List CpInfo
  | 0, r => r
  | n + 1, r => .unusable :: gap n r
def poolList (es : List (Nat × CpInfo)) (last : Nat) : List CpInfo := es.foldr (fun e r => gap e.1 (e.2 :: r)) (gap last [])
def pool (es : List (Nat × CpInfo)) (last : Nat) : Array CpInfo := ⟨poolList es last⟩
def fileOf (pool : Array CpInfo) (this : Nat) (attrs : Array Attribute := #[]) (ms : Array MethodInfo := #[]) (fl : Nat := 33) (sup : Nat := 0) (ifs : Array Nat := #[]) (fds : Array FieldInfo := #[]) : ClassFile where
  minorVersion := 0
  majorVersion := 65
  constantPool := pool
  accessFlags := fl
  thisClass := this
  superClass := sup
  interfaces := ifs
  fields := fds
  methods := ms
  attributes := attrs
def plain (name : String) (sup : Option ClassId) : Class where
  name := name
  kind := .ordinary
  loader := none
  accessFlags := 33
  super := sup
  interfaces := #[]
  cf := none
  fields := #[]
  methods := #[]
  instanceTypes := #[]
  staticTypes := #[]
  resolved := #[]
  callSites := []
  init := .initialized
  statics := none
  mirror := none

def pool0 : Array CpInfo := pool [(5, u "<init>"), (0, u "()V"), (1, .class_ 10), (1, u "java/lang/Object")] 113

def k0c0 : Code := { maxStack := 0, maxLocals := 1, code := object_method_1_code, exceptionTable := #[], attributes := #[] }
def k0m0 : Method := { name := "<init>", desc := "()V", sig := { parameters := [], returnType := none }, accessFlags := 1, code := some k0c0 }
/-- java/lang/Object -/
def k0 : Class := { plain "java/lang/Object" none with
  accessFlags := 33
  interfaces := #[]
  cf := some (fileOf pool0 8 #[] #[{ accessFlags := 1, nameIndex := 5, descriptorIndex := 6, attributes := #[] }] 33 0 #[] #[])
  fields := #[]
  methods := #[k0m0]
  instanceTypes := #[]
  staticTypes := #[]
  resolved := Array.replicate 124 none
  statics := none }

def pool1 : Array CpInfo := pool [(2, .class_ 4), (1, u "java/lang/Object"), (0, u "<init>"), (0, u "()V"), (0, .string 8), (0, u ""), (0, .methodref 10 11), (0, .class_ 12), (0, .nameAndType 13 14), (0, u "java/lang/String"), (0, u "valueOf"), (0, u "(C)Ljava/lang/String;"), (0, .methodref 10 16), (0, .nameAndType 5 17), (0, u "([C)V"), (0, .methodref 19 20), (0, .class_ 21), (0, .nameAndType 22 23), (0, u "com/example/enrout/enrout/broker/cli/OptionIsFlagPinLaw"), (0, u "drawn"), (0, u "(III)Ljava/lang/String;"), (0, .string 25), (0, u "--x"), (0, .class_ 27), (0, u "com/example/enrout/enrout/broker/cli/Option"), (0, .methodref 26 29), (0, .nameAndType 5 30), (0, u "(Ljava/lang/String;Ljava/lang/String;Ljava/lang/String;Ljava/lang/String;ZZZ)V"), (0, .methodref 26 32), (0, .nameAndType 33 34), (0, u "isFlag"), (0, u "()Z"), (0, .methodref 26 36), (0, .nameAndType 37 38), (0, u "flag"), (0, u "(Ljava/lang/String;Ljava/lang/String;)Lcom/example/enrout/enrout/broker/cli/Option;"), (0, .methodref 26 40), (0, .nameAndType 41 38), (0, u "operand"), (0, .methodref 26 43), (0, .nameAndType 44 45), (0, u "optional"), (0, u "(Ljava/lang/String;Ljava/lang/String;Ljava/lang/String;)Lcom/example/enrout/enrout/broker/cli/Option;"), (3, u "law"), (0, u "(IIII)Z")] 2

def k1m0 : Method := { name := "<init>", desc := "()V", sig := { parameters := [], returnType := none }, accessFlags := 1, code := none }
def k1c1 : Code := { maxStack := 5, maxLocals := 4, code := method_2_code, exceptionTable := #[], attributes := #[] }
def k1m1 : Method := { name := "drawn", desc := "(III)Ljava/lang/String;", sig := { parameters := [.int, .int, .int], returnType := some (.object "java/lang/String") }, accessFlags := 10, code := some k1c1 }
def k1c2 : Code := { maxStack := 9, maxLocals := 16, code := code, exceptionTable := #[], attributes := #[] }
def k1m2 : Method := { name := "law", desc := "(IIII)Z", sig := { parameters := [.int, .int, .int, .int], returnType := some .boolean }, accessFlags := 9, code := some k1c2 }
/-- com/example/enrout/enrout/broker/cli/OptionIsFlagPinLaw -/
def k1 : Class := { plain "com/example/enrout/enrout/broker/cli/OptionIsFlagPinLaw" (some 0) with
  accessFlags := 49
  interfaces := #[]
  cf := some (fileOf pool1 19 #[] #[{ accessFlags := 1, nameIndex := 5, descriptorIndex := 6, attributes := #[] }, { accessFlags := 10, nameIndex := 22, descriptorIndex := 23, attributes := #[] }, { accessFlags := 9, nameIndex := 49, descriptorIndex := 50, attributes := #[] }] 49 2 #[] #[])
  fields := #[]
  methods := #[k1m0, k1m1, k1m2]
  instanceTypes := #[]
  staticTypes := #[]
  resolved := Array.replicate 53 none
  statics := none }

def pool2 : Array CpInfo := pool [(1, .class_ 2), (0, u "java/io/Serializable"), (0, .class_ 4), (0, u "java/lang/Object")] 2

/-- java/io/Serializable -/
def k2 : Class := { plain "java/io/Serializable" (some 0) with
  accessFlags := 1537
  interfaces := #[]
  cf := some (fileOf pool2 1 #[] #[] 1537 3 #[] #[])
  fields := #[]
  methods := #[]
  instanceTypes := #[]
  staticTypes := #[]
  resolved := Array.replicate 7 none
  statics := none }

def pool3 : Array CpInfo := pool [(1, .class_ 2), (0, u "java/lang/Comparable"), (0, .class_ 4), (0, u "java/lang/Object")] 7

/-- java/lang/Comparable -/
def k3 : Class := { plain "java/lang/Comparable" (some 0) with
  accessFlags := 1537
  interfaces := #[]
  cf := some (fileOf pool3 1 #[] #[] 1537 3 #[] #[])
  fields := #[]
  methods := #[]
  instanceTypes := #[]
  staticTypes := #[]
  resolved := Array.replicate 12 none
  statics := none }

def pool4 : Array CpInfo := pool [(2, .class_ 4), (1, u "java/lang/CharSequence"), (42, .class_ 48), (0, u "java/lang/CharSequence$1CodePointIterator"), (10, .class_ 60), (0, u "java/lang/CharSequence$1CharIterator"), (5, .class_ 67), (0, u "java/lang/Object")] 63

/-- java/lang/CharSequence -/
def k4 : Class := { plain "java/lang/CharSequence" (some 0) with
  accessFlags := 1537
  interfaces := #[]
  cf := some (fileOf pool4 2 #[.nestMembers #[47, 59]] #[] 1537 66 #[] #[])
  fields := #[]
  methods := #[]
  instanceTypes := #[]
  staticTypes := #[]
  resolved := Array.replicate 131 none
  statics := none }

def pool5 : Array CpInfo := pool [(1, .class_ 2), (0, u "java/lang/constant/Constable"), (0, .class_ 4), (0, u "java/lang/Object")] 6

/-- java/lang/constant/Constable -/
def k5 : Class := { plain "java/lang/constant/Constable" (some 0) with
  accessFlags := 1537
  interfaces := #[]
  cf := some (fileOf pool5 1 #[] #[] 1537 3 #[] #[])
  fields := #[]
  methods := #[]
  instanceTypes := #[]
  staticTypes := #[]
  resolved := Array.replicate 11 none
  statics := none }

def pool6 : Array CpInfo := pool [(1, .class_ 2), (0, u "java/lang/constant/ConstantDesc"), (0, .class_ 4), (0, u "java/lang/Object")] 32

/-- java/lang/constant/ConstantDesc -/
def k6 : Class := { plain "java/lang/constant/ConstantDesc" (some 0) with
  accessFlags := 1537
  interfaces := #[]
  cf := some (fileOf pool6 1 #[] #[] 1537 3 #[] #[])
  fields := #[]
  methods := #[]
  instanceTypes := #[]
  staticTypes := #[]
  resolved := Array.replicate 37 none
  statics := none }

def pool7 : Array CpInfo := pool [(1, .methodref 2 3), (0, .class_ 4), (0, .nameAndType 5 6), (0, u "java/lang/Object"), (0, u "<init>"), (0, u "()V"), (2, .fieldref 10 11), (0, .class_ 12), (0, .nameAndType 13 14), (0, u "java/lang/String"), (0, u "value"), (0, u "[B"), (0, .fieldref 10 16), (0, .nameAndType 17 18), (0, u "coder"), (0, u "B"), (2, u "hash"), (0, u "I"), (2, u "hashIsZero"), (0, u "Z"), (0, .methodref 10 28), (0, .nameAndType 5 29), (0, u "([CIILjava/lang/Void;)V"), (8, .fieldref 10 39), (0, .nameAndType 40 26), (0, u "COMPACT_STRINGS"), (1, .class_ 44), (1, u "java/lang/StringUTF16"), (0, u "compress"), (1, .methodref 42 48), (0, .nameAndType 49 50), (0, u "coderFromArrayLen"), (0, u "([BI)B"), (2, u "toBytes"), (53, .class_ 109), (1, u "java/lang/StringLatin1"), (67, .methodref 42 178), (0, .nameAndType 45 179), (0, u "([CII)[B"), (29, .methodref 10 210), (0, .nameAndType 5 211), (0, u "([BB)V"), (157, u "(C)Z"), (205, .class_ 576), (0, u "java/lang/CharSequence"), (22, u "CASE_INSENSITIVE_ORDER"), (0, u "Ljava/util/Comparator;"), (181, u "valueOf"), (0, u "(C)Ljava/lang/String;"), (226, u "([C)V"), (4, .methodref 107 1016), (0, .nameAndType 1017 369), (0, u "canEncode"), (0, .methodref 107 1019), (0, .nameAndType 53 1020), (0, u "(C)[B"), (80, u "serialPersistentFields"), (0, u "[Ljava/io/ObjectStreamField;"), (0, .class_ 1104), (0, u "java/lang/String$CaseInsensitiveComparator"), (1, .class_ 1107), (0, u "java/io/Serializable"), (0, .class_ 1109), (0, u "java/lang/Comparable"), (0, .class_ 1111), (0, u "java/lang/constant/Constable"), (0, .class_ 1113), (0, u "java/lang/constant/ConstantDesc"), (2, u "serialVersionUID"), (0, u "J"), (3, u "REPL"), (0, u "C"), (2, u "LATIN1"), (1, u "UTF16")] 323

def k7m0 : Method := { name := "<init>", desc := "()V", sig := { parameters := [], returnType := none }, accessFlags := 1, code := none }
def k7c1 : Code := { maxStack := 5, maxLocals := 2, code := jdk_42_method_3_code, exceptionTable := #[], attributes := #[] }
def k7m1 : Method := { name := "<init>", desc := "([C)V", sig := { parameters := [(.array .char)], returnType := none }, accessFlags := 1, code := some k7c1 }
def k7c2 : Code := { maxStack := 4, maxLocals := 1, code := jdk_42_method_139_code, exceptionTable := #[], attributes := #[] }
def k7m2 : Method := { name := "valueOf", desc := "(C)Ljava/lang/String;", sig := { parameters := [.char], returnType := some (.object "java/lang/String") }, accessFlags := 9, code := some k7c2 }
def k7c3 : Code := { maxStack := 4, maxLocals := 6, code := jdk_42_method_149_code, exceptionTable := #[], attributes := #[] }
def k7m3 : Method := { name := "<init>", desc := "([CIILjava/lang/Void;)V", sig := { parameters := [(.array .char), .int, .int, (.object "java/lang/Void")], returnType := none }, accessFlags := 2, code := some k7c3 }
def k7c4 : Code := { maxStack := 2, maxLocals := 3, code := jdk_42_method_151_code, exceptionTable := #[], attributes := #[] }
def k7m4 : Method := { name := "<init>", desc := "([BB)V", sig := { parameters := [(.array .byte), .byte], returnType := none }, accessFlags := 0, code := some k7c4 }
/-- java/lang/String -/
def k7 : Class := { plain "java/lang/String" (some 0) with
  accessFlags := 49
  interfaces := #[2, 3, 4, 5, 6]
  cf := some (fileOf pool7 10 #[.nestMembers #[1103]] #[{ accessFlags := 1, nameIndex := 5, descriptorIndex := 6, attributes := #[] }, { accessFlags := 1, nameIndex := 5, descriptorIndex := 1010, attributes := #[] }, { accessFlags := 9, nameIndex := 782, descriptorIndex := 783, attributes := #[] }, { accessFlags := 2, nameIndex := 5, descriptorIndex := 29, attributes := #[] }, { accessFlags := 0, nameIndex := 5, descriptorIndex := 211, attributes := #[] }] 49 2 #[1106, 1108, 575, 1110, 1112] #[{ accessFlags := 18, nameIndex := 13, descriptorIndex := 14, attributes := #[] }, { accessFlags := 18, nameIndex := 17, descriptorIndex := 18, attributes := #[] }, { accessFlags := 2, nameIndex := 21, descriptorIndex := 22, attributes := #[] }, { accessFlags := 2, nameIndex := 25, descriptorIndex := 26, attributes := #[] }, { accessFlags := 26, nameIndex := 1116, descriptorIndex := 1117, attributes := #[] }, { accessFlags := 24, nameIndex := 40, descriptorIndex := 26, attributes := #[] }, { accessFlags := 26, nameIndex := 1101, descriptorIndex := 1102, attributes := #[] }, { accessFlags := 26, nameIndex := 1121, descriptorIndex := 1122, attributes := #[] }, { accessFlags := 25, nameIndex := 599, descriptorIndex := 600, attributes := #[] }, { accessFlags := 24, nameIndex := 1125, descriptorIndex := 18, attributes := #[] }, { accessFlags := 24, nameIndex := 1127, descriptorIndex := 18, attributes := #[] }])
  fields := #[{ name := "value", type := (.array .byte), accessFlags := 18, slot := 0, constantValue := 0 }, { name := "coder", type := .byte, accessFlags := 18, slot := 1, constantValue := 0 }, { name := "hash", type := .int, accessFlags := 2, slot := 2, constantValue := 0 }, { name := "hashIsZero", type := .boolean, accessFlags := 2, slot := 3, constantValue := 0 }, { name := "serialVersionUID", type := .long, accessFlags := 26, slot := 0, constantValue := 0 }, { name := "COMPACT_STRINGS", type := .boolean, accessFlags := 24, slot := 1, constantValue := 0 }, { name := "serialPersistentFields", type := (.array (.object "java/io/ObjectStreamField")), accessFlags := 26, slot := 2, constantValue := 0 }, { name := "REPL", type := .char, accessFlags := 26, slot := 3, constantValue := 0 }, { name := "CASE_INSENSITIVE_ORDER", type := (.object "java/util/Comparator"), accessFlags := 25, slot := 4, constantValue := 0 }, { name := "LATIN1", type := .byte, accessFlags := 24, slot := 5, constantValue := 0 }, { name := "UTF16", type := .byte, accessFlags := 24, slot := 6, constantValue := 0 }]
  methods := #[k7m0, k7m1, k7m2, k7m3, k7m4]
  instanceTypes := #[(.array .byte), .byte, .int, .boolean]
  staticTypes := #[.long, .boolean, (.array (.object "java/io/ObjectStreamField")), .char, (.object "java/util/Comparator"), .byte, .byte]
  resolved := Array.replicate 1451 none
  statics := some 0 }

def pool8 : Array CpInfo := pool [(1, .methodref 2 3), (0, .class_ 4), (0, .nameAndType 5 6), (0, u "java/lang/Object"), (0, u "<init>"), (0, u "()V"), (0, .class_ 8), (0, u "java/lang/Record")] 13

def k8c0 : Code := { maxStack := 1, maxLocals := 1, code := jdk_30_method_1_code, exceptionTable := #[], attributes := #[] }
def k8m0 : Method := { name := "<init>", desc := "()V", sig := { parameters := [], returnType := none }, accessFlags := 4, code := some k8c0 }
/-- java/lang/Record -/
def k8 : Class := { plain "java/lang/Record" (some 0) with
  accessFlags := 1057
  interfaces := #[]
  cf := some (fileOf pool8 7 #[] #[{ accessFlags := 4, nameIndex := 5, descriptorIndex := 6, attributes := #[] }] 1057 2 #[] #[])
  fields := #[]
  methods := #[k8m0]
  instanceTypes := #[]
  staticTypes := #[]
  resolved := Array.replicate 22 none
  statics := none }

def pool9 : Array CpInfo := pool [(1, .methodref 2 3), (0, .class_ 4), (0, .nameAndType 5 6), (0, u "java/lang/Record"), (0, u "<init>"), (0, u "()V"), (0, .fieldref 8 9), (0, .class_ 10), (0, .nameAndType 11 12), (0, u "com/example/enrout/enrout/broker/cli/Option"), (0, u "name"), (0, u "Ljava/lang/String;"), (0, .fieldref 8 14), (0, .nameAndType 15 12), (0, u "value"), (0, .fieldref 8 17), (0, .nameAndType 18 12), (0, u "help"), (0, .fieldref 8 20), (0, .nameAndType 21 12), (0, u "defaultValue"), (0, .fieldref 8 23), (0, .nameAndType 24 25), (0, u "required"), (0, u "Z"), (0, .fieldref 8 27), (0, .nameAndType 28 25), (0, u "repeatable"), (0, .fieldref 8 30), (0, .nameAndType 31 25), (0, u "several"), (0, .methodref 8 33), (0, .nameAndType 5 34), (0, u "(Ljava/lang/String;Ljava/lang/String;Ljava/lang/String;Ljava/lang/String;ZZZ)V"), (23, u "(Ljava/lang/String;Ljava/lang/String;Ljava/lang/String;)Lcom/example/enrout/enrout/broker/cli/Option;"), (2, u "optional"), (0, u "flag"), (0, u "(Ljava/lang/String;Ljava/lang/String;)Lcom/example/enrout/enrout/broker/cli/Option;"), (0, u "operand"), (0, u "isFlag"), (0, u "()Z")] 32

def k9c0 : Code := { maxStack := 2, maxLocals := 8, code := prog_11_method_1_code, exceptionTable := #[], attributes := #[] }
def k9m0 : Method := { name := "<init>", desc := "(Ljava/lang/String;Ljava/lang/String;Ljava/lang/String;Ljava/lang/String;ZZZ)V", sig := { parameters := [(.object "java/lang/String"), (.object "java/lang/String"), (.object "java/lang/String"), (.object "java/lang/String"), .boolean, .boolean, .boolean], returnType := none }, accessFlags := 0, code := some k9c0 }
def k9c1 : Code := { maxStack := 9, maxLocals := 3, code := prog_11_method_6_code, exceptionTable := #[], attributes := #[] }
def k9m1 : Method := { name := "optional", desc := "(Ljava/lang/String;Ljava/lang/String;Ljava/lang/String;)Lcom/example/enrout/enrout/broker/cli/Option;", sig := { parameters := [(.object "java/lang/String"), (.object "java/lang/String"), (.object "java/lang/String")], returnType := some (.object "com/example/enrout/enrout/broker/cli/Option") }, accessFlags := 8, code := some k9c1 }
def k9c2 : Code := { maxStack := 9, maxLocals := 2, code := prog_11_method_7_code, exceptionTable := #[], attributes := #[] }
def k9m2 : Method := { name := "flag", desc := "(Ljava/lang/String;Ljava/lang/String;)Lcom/example/enrout/enrout/broker/cli/Option;", sig := { parameters := [(.object "java/lang/String"), (.object "java/lang/String")], returnType := some (.object "com/example/enrout/enrout/broker/cli/Option") }, accessFlags := 8, code := some k9c2 }
def k9c3 : Code := { maxStack := 9, maxLocals := 2, code := prog_11_method_8_code, exceptionTable := #[], attributes := #[] }
def k9m3 : Method := { name := "operand", desc := "(Ljava/lang/String;Ljava/lang/String;)Lcom/example/enrout/enrout/broker/cli/Option;", sig := { parameters := [(.object "java/lang/String"), (.object "java/lang/String")], returnType := some (.object "com/example/enrout/enrout/broker/cli/Option") }, accessFlags := 8, code := some k9c3 }
def k9c4 : Code := { maxStack := 1, maxLocals := 1, code := prog_11_method_9_code, exceptionTable := #[], attributes := #[] }
def k9m4 : Method := { name := "isFlag", desc := "()Z", sig := { parameters := [], returnType := some .boolean }, accessFlags := 0, code := some k9c4 }
/-- com/example/enrout/enrout/broker/cli/Option -/
def k9 : Class := { plain "com/example/enrout/enrout/broker/cli/Option" (some 8) with
  accessFlags := 48
  interfaces := #[]
  cf := some (fileOf pool9 8 #[] #[{ accessFlags := 0, nameIndex := 5, descriptorIndex := 34, attributes := #[] }, { accessFlags := 8, nameIndex := 61, descriptorIndex := 58, attributes := #[] }, { accessFlags := 8, nameIndex := 62, descriptorIndex := 63, attributes := #[] }, { accessFlags := 8, nameIndex := 64, descriptorIndex := 63, attributes := #[] }, { accessFlags := 0, nameIndex := 65, descriptorIndex := 66, attributes := #[] }] 48 2 #[] #[{ accessFlags := 18, nameIndex := 11, descriptorIndex := 12, attributes := #[] }, { accessFlags := 18, nameIndex := 15, descriptorIndex := 12, attributes := #[] }, { accessFlags := 18, nameIndex := 18, descriptorIndex := 12, attributes := #[] }, { accessFlags := 18, nameIndex := 21, descriptorIndex := 12, attributes := #[] }, { accessFlags := 18, nameIndex := 24, descriptorIndex := 25, attributes := #[] }, { accessFlags := 18, nameIndex := 28, descriptorIndex := 25, attributes := #[] }, { accessFlags := 18, nameIndex := 31, descriptorIndex := 25, attributes := #[] }])
  fields := #[{ name := "name", type := (.object "java/lang/String"), accessFlags := 18, slot := 0, constantValue := 0 }, { name := "value", type := (.object "java/lang/String"), accessFlags := 18, slot := 1, constantValue := 0 }, { name := "help", type := (.object "java/lang/String"), accessFlags := 18, slot := 2, constantValue := 0 }, { name := "defaultValue", type := (.object "java/lang/String"), accessFlags := 18, slot := 3, constantValue := 0 }, { name := "required", type := .boolean, accessFlags := 18, slot := 4, constantValue := 0 }, { name := "repeatable", type := .boolean, accessFlags := 18, slot := 5, constantValue := 0 }, { name := "several", type := .boolean, accessFlags := 18, slot := 6, constantValue := 0 }]
  methods := #[k9m0, k9m1, k9m2, k9m3, k9m4]
  instanceTypes := #[(.object "java/lang/String"), (.object "java/lang/String"), (.object "java/lang/String"), (.object "java/lang/String"), .boolean, .boolean, .boolean]
  staticTypes := #[]
  resolved := Array.replicate 99 none
  statics := none }

def pool10 : Array CpInfo := pool [(4, .class_ 6), (1, u "java/lang/Object"), (0, u "<init>"), (0, u "()V"), (5, .class_ 16), (1, u "java/lang/StringLatin1"), (73, u "canEncode"), (14, u "(C)Z"), (15, u "$assertionsDisabled"), (0, u "Z"), (98, .class_ 223), (1, u "java/lang/StringLatin1$LinesSpliterator"), (156, u "toBytes"), (1, u "(C)[B"), (7, .class_ 391), (0, u "java/lang/StringLatin1$CharsSpliterator")] 3

def k10m0 : Method := { name := "<init>", desc := "()V", sig := { parameters := [], returnType := none }, accessFlags := 0, code := none }
def k10c1 : Code := { maxStack := 2, maxLocals := 1, code := jdk_43_method_3_code, exceptionTable := #[], attributes := #[] }
def k10m1 : Method := { name := "canEncode", desc := "(C)Z", sig := { parameters := [.char], returnType := some .boolean }, accessFlags := 9, code := some k10c1 }
def k10c2 : Code := { maxStack := 4, maxLocals := 1, code := jdk_43_method_46_code, exceptionTable := #[], attributes := #[] }
def k10m2 : Method := { name := "toBytes", desc := "(C)[B", sig := { parameters := [.char], returnType := some (.array .byte) }, accessFlags := 9, code := some k10c2 }
/-- java/lang/StringLatin1 -/
def k10 : Class := { plain "java/lang/StringLatin1" (some 0) with
  accessFlags := 48
  interfaces := #[]
  cf := some (fileOf pool10 14 #[.nestMembers #[390, 221]] #[{ accessFlags := 0, nameIndex := 7, descriptorIndex := 8, attributes := #[] }, { accessFlags := 9, nameIndex := 90, descriptorIndex := 105, attributes := #[] }, { accessFlags := 9, nameIndex := 380, descriptorIndex := 382, attributes := #[] }] 48 4 #[] #[{ accessFlags := 4120, nameIndex := 121, descriptorIndex := 122, attributes := #[] }])
  fields := #[{ name := "$assertionsDisabled", type := .boolean, accessFlags := 4120, slot := 0, constantValue := 0 }]
  methods := #[k10m0, k10m1, k10m2]
  instanceTypes := #[]
  staticTypes := #[.boolean]
  resolved := Array.replicate 395 none
  statics := none }

def pool11 : Array CpInfo := pool [(6, .class_ 8), (1, u "java/lang/Object"), (0, u "<init>"), (0, u "()V"), (1, .class_ 14), (1, u "java/lang/StringUTF16"), (31, u "$assertionsDisabled"), (0, u "Z"), (13, u "HI_BYTE_SHIFT"), (0, u "I"), (2, u "LO_BYTE_SHIFT"), (49, .methodref 12 116), (0, .nameAndType 117 118), (0, u "compress"), (0, u "([CI[BII)I"), (3, u "([CII)[B"), (138, u "coderFromArrayLen"), (0, u "([BI)B"), (106, .class_ 371), (1, u "java/lang/StringUTF16$LinesSpliterator"), (58, u "MAX_LENGTH"), (196, .class_ 628), (0, u "java/lang/StringUTF16$CodePointsSpliterator"), (0, .class_ 630), (0, u "java/lang/StringUTF16$CharsSpliterator")] 4

def k11m0 : Method := { name := "<init>", desc := "()V", sig := { parameters := [], returnType := none }, accessFlags := 0, code := none }
def k11c1 : Code := { maxStack := 2, maxLocals := 2, code := jdk_52_method_15_code, exceptionTable := #[], attributes := #[] }
def k11m1 : Method := { name := "coderFromArrayLen", desc := "([BI)B", sig := { parameters := [(.array .byte), .int], returnType := some .byte }, accessFlags := 8, code := some k11c1 }
def k11c2 : Code := { maxStack := 5, maxLocals := 6, code := jdk_52_method_16_code, exceptionTable := #[], attributes := #[] }
def k11m2 : Method := { name := "compress", desc := "([CII)[B", sig := { parameters := [(.array .char), .int, .int], returnType := some (.array .byte) }, accessFlags := 9, code := some k11c2 }
def k11c3 : Code := { maxStack := 3, maxLocals := 7, code := jdk_52_method_21_code, exceptionTable := #[], attributes := #[] }
def k11m3 : Method := { name := "compress", desc := "([CI[BII)I", sig := { parameters := [(.array .char), .int, (.array .byte), .int, .int], returnType := some .int }, accessFlags := 9, code := some k11c3 }
/-- java/lang/StringUTF16 -/
def k11 : Class := { plain "java/lang/StringUTF16" (some 0) with
  accessFlags := 48
  interfaces := #[]
  cf := some (fileOf pool11 12 #[.nestMembers #[627, 629, 369]] #[{ accessFlags := 0, nameIndex := 9, descriptorIndex := 10, attributes := #[] }, { accessFlags := 8, nameIndex := 261, descriptorIndex := 262, attributes := #[] }, { accessFlags := 9, nameIndex := 117, descriptorIndex := 122, attributes := #[] }, { accessFlags := 9, nameIndex := 117, descriptorIndex := 118, attributes := #[] }] 48 6 #[] #[{ accessFlags := 26, nameIndex := 61, descriptorIndex := 62, attributes := #[] }, { accessFlags := 26, nameIndex := 65, descriptorIndex := 62, attributes := #[] }, { accessFlags := 24, nameIndex := 430, descriptorIndex := 62, attributes := #[] }, { accessFlags := 4120, nameIndex := 46, descriptorIndex := 47, attributes := #[] }])
  fields := #[{ name := "HI_BYTE_SHIFT", type := .int, accessFlags := 26, slot := 0, constantValue := 0 }, { name := "LO_BYTE_SHIFT", type := .int, accessFlags := 26, slot := 1, constantValue := 0 }, { name := "MAX_LENGTH", type := .int, accessFlags := 24, slot := 2, constantValue := 0 }, { name := "$assertionsDisabled", type := .boolean, accessFlags := 4120, slot := 3, constantValue := 0 }]
  methods := #[k11m0, k11m1, k11m2, k11m3]
  instanceTypes := #[]
  staticTypes := #[.int, .int, .int, .boolean]
  resolved := Array.replicate 635 none
  statics := none }

def pool12 : Array CpInfo := pool [(2, .class_ 4), (1, u "java/lang/Object"), (0, u "<init>"), (0, u "()V"), (17, .class_ 26), (1, u "jdk/internal/util/Preconditions"), (28, .class_ 56), (0, u "jdk/internal/util/Preconditions$4"), (57, .class_ 115), (0, u "jdk/internal/util/Preconditions$1"), (7, u "SIOOBE_FORMATTER"), (0, u "Ljava/util/function/BiFunction;"), (0, .class_ 126), (0, u "jdk/internal/util/Preconditions$2"), (3, u "AIOOBE_FORMATTER"), (0, .class_ 132), (0, u "jdk/internal/util/Preconditions$3"), (3, u "IOOBE_FORMATTER")] 57

def k12m0 : Method := { name := "<init>", desc := "()V", sig := { parameters := [], returnType := none }, accessFlags := 1, code := none }
/-- jdk/internal/util/Preconditions -/
def k12 : Class := { plain "jdk/internal/util/Preconditions" (some 0) with
  accessFlags := 33
  interfaces := #[]
  cf := some (fileOf pool12 24 #[.nestMembers #[55, 131, 125, 114]] #[{ accessFlags := 1, nameIndex := 5, descriptorIndex := 6, attributes := #[] }] 33 2 #[] #[{ accessFlags := 25, nameIndex := 123, descriptorIndex := 124, attributes := #[] }, { accessFlags := 25, nameIndex := 130, descriptorIndex := 124, attributes := #[] }, { accessFlags := 25, nameIndex := 136, descriptorIndex := 124, attributes := #[] }])
  fields := #[{ name := "SIOOBE_FORMATTER", type := (.object "java/util/function/BiFunction"), accessFlags := 25, slot := 0, constantValue := 0 }, { name := "AIOOBE_FORMATTER", type := (.object "java/util/function/BiFunction"), accessFlags := 25, slot := 1, constantValue := 0 }, { name := "IOOBE_FORMATTER", type := (.object "java/util/function/BiFunction"), accessFlags := 25, slot := 2, constantValue := 0 }]
  methods := #[k12m0]
  instanceTypes := #[]
  staticTypes := #[(.object "java/util/function/BiFunction"), (.object "java/util/function/BiFunction"), (.object "java/util/function/BiFunction")]
  resolved := Array.replicate 194 none
  statics := some 1 }

def pool13 : Array CpInfo := pool [(9, u "<init>"), (6, .class_ 18), (1, u "java/lang/Object"), (0, u "()V"), (1, .class_ 23), (1, u "jdk/internal/util/ArraysSupport"), (0, u "LOG2_ARRAY_LONG_INDEX_SCALE"), (0, u "I"), (2, u "U"), (0, u "Ljdk/internal/misc/Unsafe;"), (8, u "BIG_ENDIAN"), (0, u "Z"), (8, u "LOG2_BYTE_BIT_SIZE"), (4, u "LOG2_ARRAY_INT_INDEX_SCALE"), (54, u "JLA"), (0, u "Ljdk/internal/access/JavaLangAccess;"), (11, u "LOG2_ARRAY_BOOLEAN_INDEX_SCALE"), (9, u "LOG2_ARRAY_BYTE_INDEX_SCALE"), (5, u "LOG2_ARRAY_CHAR_INDEX_SCALE"), (5, u "LOG2_ARRAY_SHORT_INDEX_SCALE"), (18, u "LOG2_ARRAY_FLOAT_INDEX_SCALE"), (24, u "LOG2_ARRAY_DOUBLE_INDEX_SCALE"), (89, u "T_BOOLEAN"), (2, u "T_CHAR"), (1, u "T_FLOAT"), (1, u "T_DOUBLE"), (1, u "T_BYTE"), (1, u "T_SHORT"), (1, u "T_INT"), (1, u "T_LONG"), (1, u "SOFT_MAX_ARRAY_LENGTH")] 83

def k13m0 : Method := { name := "<init>", desc := "()V", sig := { parameters := [], returnType := none }, accessFlags := 2, code := none }
/-- jdk/internal/util/ArraysSupport -/
def k13 : Class := { plain "jdk/internal/util/ArraysSupport" (some 0) with
  accessFlags := 33
  interfaces := #[]
  cf := some (fileOf pool13 21 #[] #[{ accessFlags := 2, nameIndex := 9, descriptorIndex := 19, attributes := #[] }] 33 16 #[] #[{ accessFlags := 24, nameIndex := 28, descriptorIndex := 29, attributes := #[] }, { accessFlags := 26, nameIndex := 38, descriptorIndex := 39, attributes := #[] }, { accessFlags := 25, nameIndex := 121, descriptorIndex := 25, attributes := #[] }, { accessFlags := 25, nameIndex := 131, descriptorIndex := 25, attributes := #[] }, { accessFlags := 25, nameIndex := 137, descriptorIndex := 25, attributes := #[] }, { accessFlags := 25, nameIndex := 143, descriptorIndex := 25, attributes := #[] }, { accessFlags := 25, nameIndex := 53, descriptorIndex := 25, attributes := #[] }, { accessFlags := 25, nameIndex := 24, descriptorIndex := 25, attributes := #[] }, { accessFlags := 25, nameIndex := 162, descriptorIndex := 25, attributes := #[] }, { accessFlags := 25, nameIndex := 187, descriptorIndex := 25, attributes := #[] }, { accessFlags := 26, nameIndex := 48, descriptorIndex := 25, attributes := #[] }, { accessFlags := 25, nameIndex := 277, descriptorIndex := 25, attributes := #[] }, { accessFlags := 25, nameIndex := 280, descriptorIndex := 25, attributes := #[] }, { accessFlags := 25, nameIndex := 282, descriptorIndex := 25, attributes := #[] }, { accessFlags := 25, nameIndex := 284, descriptorIndex := 25, attributes := #[] }, { accessFlags := 25, nameIndex := 286, descriptorIndex := 25, attributes := #[] }, { accessFlags := 25, nameIndex := 288, descriptorIndex := 25, attributes := #[] }, { accessFlags := 25, nameIndex := 290, descriptorIndex := 25, attributes := #[] }, { accessFlags := 25, nameIndex := 292, descriptorIndex := 25, attributes := #[] }, { accessFlags := 26, nameIndex := 108, descriptorIndex := 109, attributes := #[] }, { accessFlags := 25, nameIndex := 294, descriptorIndex := 25, attributes := #[] }])
  fields := #[{ name := "U", type := (.object "jdk/internal/misc/Unsafe"), accessFlags := 24, slot := 0, constantValue := 0 }, { name := "BIG_ENDIAN", type := .boolean, accessFlags := 26, slot := 1, constantValue := 0 }, { name := "LOG2_ARRAY_BOOLEAN_INDEX_SCALE", type := .int, accessFlags := 25, slot := 2, constantValue := 0 }, { name := "LOG2_ARRAY_BYTE_INDEX_SCALE", type := .int, accessFlags := 25, slot := 3, constantValue := 0 }, { name := "LOG2_ARRAY_CHAR_INDEX_SCALE", type := .int, accessFlags := 25, slot := 4, constantValue := 0 }, { name := "LOG2_ARRAY_SHORT_INDEX_SCALE", type := .int, accessFlags := 25, slot := 5, constantValue := 0 }, { name := "LOG2_ARRAY_INT_INDEX_SCALE", type := .int, accessFlags := 25, slot := 6, constantValue := 0 }, { name := "LOG2_ARRAY_LONG_INDEX_SCALE", type := .int, accessFlags := 25, slot := 7, constantValue := 0 }, { name := "LOG2_ARRAY_FLOAT_INDEX_SCALE", type := .int, accessFlags := 25, slot := 8, constantValue := 0 }, { name := "LOG2_ARRAY_DOUBLE_INDEX_SCALE", type := .int, accessFlags := 25, slot := 9, constantValue := 0 }, { name := "LOG2_BYTE_BIT_SIZE", type := .int, accessFlags := 26, slot := 10, constantValue := 0 }, { name := "T_BOOLEAN", type := .int, accessFlags := 25, slot := 11, constantValue := 0 }, { name := "T_CHAR", type := .int, accessFlags := 25, slot := 12, constantValue := 0 }, { name := "T_FLOAT", type := .int, accessFlags := 25, slot := 13, constantValue := 0 }, { name := "T_DOUBLE", type := .int, accessFlags := 25, slot := 14, constantValue := 0 }, { name := "T_BYTE", type := .int, accessFlags := 25, slot := 15, constantValue := 0 }, { name := "T_SHORT", type := .int, accessFlags := 25, slot := 16, constantValue := 0 }, { name := "T_INT", type := .int, accessFlags := 25, slot := 17, constantValue := 0 }, { name := "T_LONG", type := .int, accessFlags := 25, slot := 18, constantValue := 0 }, { name := "JLA", type := (.object "jdk/internal/access/JavaLangAccess"), accessFlags := 26, slot := 19, constantValue := 0 }, { name := "SOFT_MAX_ARRAY_LENGTH", type := .int, accessFlags := 25, slot := 20, constantValue := 0 }]
  methods := #[k13m0]
  instanceTypes := #[]
  staticTypes := #[(.object "jdk/internal/misc/Unsafe"), .boolean, .int, .int, .int, .int, .int, .int, .int, .int, .int, .int, .int, .int, .int, .int, .int, .int, .int, (.object "jdk/internal/access/JavaLangAccess"), .int]
  resolved := Array.replicate 378 none
  statics := none }

def pool14 : Array CpInfo := pool [(1, u "java/lang/Cloneable"), (0, .class_ 1), (0, u "java/lang/Object"), (0, .class_ 3)] 3

/-- java/lang/Cloneable -/
def k14 : Class := { plain "java/lang/Cloneable" (some 0) with
  accessFlags := 1537
  interfaces := #[]
  cf := some (fileOf pool14 2 #[] #[] 1537 4 #[] #[])
  fields := #[]
  methods := #[]
  instanceTypes := #[]
  staticTypes := #[]
  resolved := Array.replicate 8 none
  statics := none }

/-- the primitive byte -/
def k15 : Class := { plain "byte" none with kind := .primitive 'B', accessFlags := 0x411 }
/-- [B -/
def k16 : Class := { plain "[B" (some 0) with kind := .array 15 .byte, interfaces := #[14, 2], accessFlags := 1041 }

/-- the primitive char -/
def k17 : Class := { plain "char" none with kind := .primitive 'C', accessFlags := 0x411 }
/-- [C -/
def k18 : Class := { plain "[C" (some 0) with kind := .array 17 .char, interfaces := #[14, 2], accessFlags := 1041 }

/-- the primitive int -/
def k19 : Class := { plain "int" none with kind := .primitive 'I', accessFlags := 0x411 }
/-- [I -/
def k20 : Class := { plain "[I" (some 0) with kind := .array 19 .int, interfaces := #[14, 2], accessFlags := 1041 }

def heap : Heap := #[{ cls := 7, slots := #[.long 0, .int 1, .null, .int 0, .null, .int 0, .int 0], vm := .statics 7 },
  { cls := 12, slots := #[.null, .null, .null], vm := .statics 12 }]
def classes : Array Class := #[k0, k1, k2, k3, k4, k5, k6, k7, k8, k9, k10, k11, k12, k13, k14, k15, k16, k17, k18, k19, k20]
def interned : List (Array UInt16 × Addr) := []
def slotsUsed : Nat := 10
def theMethod : MethodId := ⟨1, 2⟩
def args0 : Array Value := #[.int 5, .int 3, .int 65, .int 7]
def aboutOver (below : List Frame) : State where
  vm := { classes := classes, interned := interned.toArray }
  heap := heap
  slotsUsed := slotsUsed
  threads := #[{ frames := .invoking theMethod args0 :: below }]
def below0 : List Frame := [.native { method := ⟨0, 0⟩, args := #[] }]
def about1 : State := aboutOver below0
def p0 : Program := .bare "" "" ""
def e0 : Env := launch0.env 0 0 0
theorem w_frames : about1.frames = Frame.invoking theMethod args0 :: below0 := rfl
set_option maxRecDepth 65536 in
theorem w_args : argsFit about1.vm theMethod args0 = true := by decide +kernel
set_option maxRecDepth 65536 in
theorem w_heap : heapFits about1 = true := by decide +kernel
set_option maxRecDepth 65536 in
theorem w_runnable : about1.curStatus? = some .runnable := by decide +kernel
set_option maxRecDepth 65536 in
theorem w_alone : about1.alone = true := by decide +kernel
set_option maxRecDepth 65536 in
theorem w_named : about1.methodNamed? x = some theMethod := by decide +kernel
set_option maxRecDepth 65536 in
theorem w_hears : about1.hears theMethod below0 = true := by decide +kernel
set_option maxRecDepth 65536 in
theorem w_ripe : about1.ripe theMethod args0 below0 = true := by decide +kernel
theorem w_running : about1.status = .running := rfl
set_option maxRecDepth 65536 in
theorem w_room : about1.hasRoom e0.platform room_1 = true :=
  launch0.hasRoom_least _ room_1 (by decide +kernel) (by decide +kernel) (by decide +kernel) (by decide +kernel) (by decide +kernel) (by decide +kernel)
theorem allAtoms_all (ts : List Jvm.Cond) (a : Array Jvm.Value) (st : Jvm.State) : (allAtoms ts).before a st = ts.all (fun c => c.before a st) := by
  induction ts with
  | nil => rfl
  | cons c t ih =>
    show (Jvm.Cond.and c (allAtoms t)).before a st = _
    rw [Jvm.Cond.before_and, ih, List.all_cons]
def words1 : List Jvm.Cond := Jvm.Cond.code x code maxLocals ret :: tables_1
/-- a 'code' word, met by the world's own term for the bytes: nothing is compared byte by byte -/
theorem code_word {y : MethodName} {bytes : ByteArray} {mx : Nat} {rt : Option FieldType} {a : Array Value} {s : State} {m : MethodId} {meth : Method} {c : Code} (h1 : s.methodNamed? y = some m) (h2 : s.vm.method? m = some meth) (h3 : meth.code = some c) (h4 : c.code = bytes)
    (h5 : (c.maxLocals == mx && c.exceptionTable.isEmpty && decide (c.maxStack ≤ mostOperands) && decide (meth.sig.returnType = rt) && !meth.locks && decide (parseMethodDescriptor y.desc = some meth.sig)) = true) : (Jvm.Cond.code y bytes mx rt).before a s = true := by
  simp only [Bool.and_eq_true, beq_iff_eq, Bool.not_eq_true', decide_eq_true_eq] at h5
  obtain ⟨⟨⟨⟨⟨g1, g2⟩, g3⟩, g4⟩, g5⟩, g6⟩ := h5
  simp [Cond.before, Cond.holds, Cond.value, h1, h2, h3, h4, g1, g2, g3, g4, g5, g6]
def isCode : Jvm.Cond → Bool
  | .code _ _ _ _ => true
  | _ => false
theorem all_split {L : List Jvm.Cond} {P : Jvm.Cond → Bool} (h1 : L.all (fun c => isCode c || P c) = true) (h2 : ∀ c ∈ L.filter isCode, P c = true) : L.all P = true := by
  refine List.all_eq_true.mpr fun c hc => ?_
  have h := List.all_eq_true.mp h1 c hc
  rcases Bool.eq_false_or_eq_true (isCode c) with hi | hi
  · exact h2 c (List.mem_filter.mpr ⟨hc, hi⟩)
  · simpa [hi] using h
set_option maxRecDepth 65536 in
theorem w_c0 : (Jvm.Cond.code x code maxLocals ret).before args0 about1 = true := code_word (m := ⟨1, 2⟩) (meth := k1m2) (c := k1c2) (by decide +kernel) rfl rfl rfl (by decide +kernel)
set_option maxRecDepth 65536 in
theorem w_c1 : (Jvm.Cond.code ({ cls := "com/example/enrout/enrout/broker/cli/OptionIsFlagPinLaw", name := "drawn", desc := "(III)Ljava/lang/String;" } : Jvm.MethodName) method_2_code (4 : Nat) (Option.some (Jvm.ClassFile.FieldType.object "java/lang/String"))).before args0 about1 = true := code_word (m := ⟨1, 1⟩) (meth := k1m1) (c := k1c1) (by decide +kernel) rfl rfl rfl (by decide +kernel)
set_option maxRecDepth 65536 in
theorem w_c2 : (Jvm.Cond.code ({ cls := "com/example/enrout/enrout/broker/cli/Option", name := "<init>", desc := "(Ljava/lang/String;Ljava/lang/String;Ljava/lang/String;Ljava/lang/String;ZZZ)V" } : Jvm.MethodName) prog_11_method_1_code (8 : Nat) (Option.none : Option Jvm.ClassFile.FieldType)).before args0 about1 = true := code_word (m := ⟨9, 0⟩) (meth := k9m0) (c := k9c0) (by decide +kernel) rfl rfl rfl (by decide +kernel)
set_option maxRecDepth 65536 in
theorem w_c3 : (Jvm.Cond.code ({ cls := "java/lang/Record", name := "<init>", desc := "()V" } : Jvm.MethodName) jdk_30_method_1_code (1 : Nat) (Option.none : Option Jvm.ClassFile.FieldType)).before args0 about1 = true := code_word (m := ⟨8, 0⟩) (meth := k8m0) (c := k8c0) (by decide +kernel) rfl rfl rfl (by decide +kernel)
set_option maxRecDepth 65536 in
theorem w_c4 : (Jvm.Cond.code ({ cls := "java/lang/Object", name := "<init>", desc := "()V" } : Jvm.MethodName) object_method_1_code (1 : Nat) (Option.none : Option Jvm.ClassFile.FieldType)).before args0 about1 = true := code_word (m := ⟨0, 0⟩) (meth := k0m0) (c := k0c0) (by decide +kernel) rfl rfl rfl (by decide +kernel)
set_option maxRecDepth 65536 in
theorem w_c5 : (Jvm.Cond.code ({ cls := "com/example/enrout/enrout/broker/cli/Option", name := "isFlag", desc := "()Z" } : Jvm.MethodName) prog_11_method_9_code (1 : Nat) (Option.some Jvm.ClassFile.FieldType.boolean)).before args0 about1 = true := code_word (m := ⟨9, 4⟩) (meth := k9m4) (c := k9c4) (by decide +kernel) rfl rfl rfl (by decide +kernel)
set_option maxRecDepth 65536 in
theorem w_c6 : (Jvm.Cond.code ({ cls := "com/example/enrout/enrout/broker/cli/Option", name := "flag", desc := "(Ljava/lang/String;Ljava/lang/String;)Lcom/example/enrout/enrout/broker/cli/Option;" } : Jvm.MethodName) prog_11_method_7_code (2 : Nat) (Option.some (Jvm.ClassFile.FieldType.object "com/example/enrout/enrout/broker/cli/Option"))).before args0 about1 = true := code_word (m := ⟨9, 2⟩) (meth := k9m2) (c := k9c2) (by decide +kernel) rfl rfl rfl (by decide +kernel)
set_option maxRecDepth 65536 in
theorem w_c7 : (Jvm.Cond.code ({ cls := "com/example/enrout/enrout/broker/cli/Option", name := "operand", desc := "(Ljava/lang/String;Ljava/lang/String;)Lcom/example/enrout/enrout/broker/cli/Option;" } : Jvm.MethodName) prog_11_method_8_code (2 : Nat) (Option.some (Jvm.ClassFile.FieldType.object "com/example/enrout/enrout/broker/cli/Option"))).before args0 about1 = true := code_word (m := ⟨9, 3⟩) (meth := k9m3) (c := k9c3) (by decide +kernel) rfl rfl rfl (by decide +kernel)
set_option maxRecDepth 65536 in
theorem w_c8 : (Jvm.Cond.code ({ cls := "com/example/enrout/enrout/broker/cli/Option", name := "optional", desc := "(Ljava/lang/String;Ljava/lang/String;Ljava/lang/String;)Lcom/example/enrout/enrout/broker/cli/Option;" } : Jvm.MethodName) prog_11_method_6_code (3 : Nat) (Option.some (Jvm.ClassFile.FieldType.object "com/example/enrout/enrout/broker/cli/Option"))).before args0 about1 = true := code_word (m := ⟨9, 1⟩) (meth := k9m1) (c := k9c1) (by decide +kernel) rfl rfl rfl (by decide +kernel)
set_option maxRecDepth 65536 in
theorem w_c9 : (Jvm.Cond.code ({ cls := "java/lang/String", name := "valueOf", desc := "(C)Ljava/lang/String;" } : Jvm.MethodName) jdk_42_method_139_code (1 : Nat) (Option.some (Jvm.ClassFile.FieldType.object "java/lang/String"))).before args0 about1 = true := code_word (m := ⟨7, 2⟩) (meth := k7m2) (c := k7c2) (by decide +kernel) rfl rfl rfl (by decide +kernel)
set_option maxRecDepth 65536 in
theorem w_c10 : (Jvm.Cond.code ({ cls := "java/lang/StringLatin1", name := "canEncode", desc := "(C)Z" } : Jvm.MethodName) jdk_43_method_3_code (1 : Nat) (Option.some Jvm.ClassFile.FieldType.boolean)).before args0 about1 = true := code_word (m := ⟨10, 1⟩) (meth := k10m1) (c := k10c1) (by decide +kernel) rfl rfl rfl (by decide +kernel)
set_option maxRecDepth 65536 in
theorem w_c11 : (Jvm.Cond.code ({ cls := "java/lang/StringLatin1", name := "toBytes", desc := "(C)[B" } : Jvm.MethodName) jdk_43_method_46_code (1 : Nat) (Option.some (Jvm.ClassFile.FieldType.array Jvm.ClassFile.FieldType.byte))).before args0 about1 = true := code_word (m := ⟨10, 2⟩) (meth := k10m2) (c := k10c2) (by decide +kernel) rfl rfl rfl (by decide +kernel)
set_option maxRecDepth 65536 in
theorem w_c12 : (Jvm.Cond.code ({ cls := "java/lang/String", name := "<init>", desc := "([BB)V" } : Jvm.MethodName) jdk_42_method_151_code (3 : Nat) (Option.none : Option Jvm.ClassFile.FieldType)).before args0 about1 = true := code_word (m := ⟨7, 4⟩) (meth := k7m4) (c := k7c4) (by decide +kernel) rfl rfl rfl (by decide +kernel)
set_option maxRecDepth 65536 in
theorem w_c13 : (Jvm.Cond.code ({ cls := "java/lang/String", name := "<init>", desc := "([C)V" } : Jvm.MethodName) jdk_42_method_3_code (2 : Nat) (Option.none : Option Jvm.ClassFile.FieldType)).before args0 about1 = true := code_word (m := ⟨7, 1⟩) (meth := k7m1) (c := k7c1) (by decide +kernel) rfl rfl rfl (by decide +kernel)
set_option maxRecDepth 65536 in
theorem w_c14 : (Jvm.Cond.code ({ cls := "java/lang/String", name := "<init>", desc := "([CIILjava/lang/Void;)V" } : Jvm.MethodName) jdk_42_method_149_code (6 : Nat) (Option.none : Option Jvm.ClassFile.FieldType)).before args0 about1 = true := code_word (m := ⟨7, 3⟩) (meth := k7m3) (c := k7c3) (by decide +kernel) rfl rfl rfl (by decide +kernel)
set_option maxRecDepth 65536 in
theorem w_c15 : (Jvm.Cond.code ({ cls := "java/lang/StringUTF16", name := "compress", desc := "([CII)[B" } : Jvm.MethodName) jdk_52_method_16_code (6 : Nat) (Option.some (Jvm.ClassFile.FieldType.array Jvm.ClassFile.FieldType.byte))).before args0 about1 = true := code_word (m := ⟨11, 2⟩) (meth := k11m2) (c := k11c2) (by decide +kernel) rfl rfl rfl (by decide +kernel)
set_option maxRecDepth 65536 in
theorem w_c16 : (Jvm.Cond.code ({ cls := "java/lang/StringUTF16", name := "compress", desc := "([CI[BII)I" } : Jvm.MethodName) jdk_52_method_21_code (7 : Nat) (Option.some Jvm.ClassFile.FieldType.int)).before args0 about1 = true := code_word (m := ⟨11, 3⟩) (meth := k11m3) (c := k11c3) (by decide +kernel) rfl rfl rfl (by decide +kernel)
set_option maxRecDepth 65536 in
theorem w_c17 : (Jvm.Cond.code ({ cls := "java/lang/StringUTF16", name := "coderFromArrayLen", desc := "([BI)B" } : Jvm.MethodName) jdk_52_method_15_code (2 : Nat) (Option.some Jvm.ClassFile.FieldType.byte)).before args0 about1 = true := code_word (m := ⟨11, 1⟩) (meth := k11m1) (c := k11c1) (by decide +kernel) rfl rfl rfl (by decide +kernel)
def codes1 : List Jvm.Cond := [Jvm.Cond.code x code maxLocals ret, Jvm.Cond.code ({ cls := "com/example/enrout/enrout/broker/cli/OptionIsFlagPinLaw", name := "drawn", desc := "(III)Ljava/lang/String;" } : Jvm.MethodName) method_2_code (4 : Nat) (Option.some (Jvm.ClassFile.FieldType.object "java/lang/String")), Jvm.Cond.code ({ cls := "com/example/enrout/enrout/broker/cli/Option", name := "<init>", desc := "(Ljava/lang/String;Ljava/lang/String;Ljava/lang/String;Ljava/lang/String;ZZZ)V" } : Jvm.MethodName) prog_11_method_1_code (8 : Nat) (Option.none : Option Jvm.ClassFile.FieldType), Jvm.Cond.code ({ cls := "java/lang/Record", name := "<init>", desc := "()V" } : Jvm.MethodName) jdk_30_method_1_code (1 : Nat) (Option.none : Option Jvm.ClassFile.FieldType), Jvm.Cond.code ({ cls := "java/lang/Object", name := "<init>", desc := "()V" } : Jvm.MethodName) object_method_1_code (1 : Nat) (Option.none : Option Jvm.ClassFile.FieldType), Jvm.Cond.code ({ cls := "com/example/enrout/enrout/broker/cli/Option", name := "isFlag", desc := "()Z" } : Jvm.MethodName) prog_11_method_9_code (1 : Nat) (Option.some Jvm.ClassFile.FieldType.boolean), Jvm.Cond.code ({ cls := "com/example/enrout/enrout/broker/cli/Option", name := "flag", desc := "(Ljava/lang/String;Ljava/lang/String;)Lcom/example/enrout/enrout/broker/cli/Option;" } : Jvm.MethodName) prog_11_method_7_code (2 : Nat) (Option.some (Jvm.ClassFile.FieldType.object "com/example/enrout/enrout/broker/cli/Option")), Jvm.Cond.code ({ cls := "com/example/enrout/enrout/broker/cli/Option", name := "operand", desc := "(Ljava/lang/String;Ljava/lang/String;)Lcom/example/enrout/enrout/broker/cli/Option;" } : Jvm.MethodName) prog_11_method_8_code (2 : Nat) (Option.some (Jvm.ClassFile.FieldType.object "com/example/enrout/enrout/broker/cli/Option")), Jvm.Cond.code ({ cls := "com/example/enrout/enrout/broker/cli/Option", name := "optional", desc := "(Ljava/lang/String;Ljava/lang/String;Ljava/lang/String;)Lcom/example/enrout/enrout/broker/cli/Option;" } : Jvm.MethodName) prog_11_method_6_code (3 : Nat) (Option.some (Jvm.ClassFile.FieldType.object "com/example/enrout/enrout/broker/cli/Option")), Jvm.Cond.code ({ cls := "java/lang/String", name := "valueOf", desc := "(C)Ljava/lang/String;" } : Jvm.MethodName) jdk_42_method_139_code (1 : Nat) (Option.some (Jvm.ClassFile.FieldType.object "java/lang/String")), Jvm.Cond.code ({ cls := "java/lang/StringLatin1", name := "canEncode", desc := "(C)Z" } : Jvm.MethodName) jdk_43_method_3_code (1 : Nat) (Option.some Jvm.ClassFile.FieldType.boolean), Jvm.Cond.code ({ cls := "java/lang/StringLatin1", name := "toBytes", desc := "(C)[B" } : Jvm.MethodName) jdk_43_method_46_code (1 : Nat) (Option.some (Jvm.ClassFile.FieldType.array Jvm.ClassFile.FieldType.byte)), Jvm.Cond.code ({ cls := "java/lang/String", name := "<init>", desc := "([BB)V" } : Jvm.MethodName) jdk_42_method_151_code (3 : Nat) (Option.none : Option Jvm.ClassFile.FieldType), Jvm.Cond.code ({ cls := "java/lang/String", name := "<init>", desc := "([C)V" } : Jvm.MethodName) jdk_42_method_3_code (2 : Nat) (Option.none : Option Jvm.ClassFile.FieldType), Jvm.Cond.code ({ cls := "java/lang/String", name := "<init>", desc := "([CIILjava/lang/Void;)V" } : Jvm.MethodName) jdk_42_method_149_code (6 : Nat) (Option.none : Option Jvm.ClassFile.FieldType), Jvm.Cond.code ({ cls := "java/lang/StringUTF16", name := "compress", desc := "([CII)[B" } : Jvm.MethodName) jdk_52_method_16_code (6 : Nat) (Option.some (Jvm.ClassFile.FieldType.array Jvm.ClassFile.FieldType.byte)), Jvm.Cond.code ({ cls := "java/lang/StringUTF16", name := "compress", desc := "([CI[BII)I" } : Jvm.MethodName) jdk_52_method_21_code (7 : Nat) (Option.some Jvm.ClassFile.FieldType.int), Jvm.Cond.code ({ cls := "java/lang/StringUTF16", name := "coderFromArrayLen", desc := "([BI)B" } : Jvm.MethodName) jdk_52_method_15_code (2 : Nat) (Option.some Jvm.ClassFile.FieldType.byte)]
set_option maxRecDepth 65536 in
theorem codes_eq : words1.filter isCode = codes1 := rfl
theorem w_codes : ∀ c ∈ words1.filter isCode, c.before args0 about1 = true := by
  rw [codes_eq]
  intro c hc
  simp only [codes1, List.mem_cons, List.not_mem_nil, or_false] at hc
  rcases hc with rfl | rfl | rfl | rfl | rfl | rfl | rfl | rfl | rfl | rfl | rfl | rfl | rfl | rfl | rfl | rfl | rfl | rfl
  · exact w_c0
  · exact w_c1
  · exact w_c2
  · exact w_c3
  · exact w_c4
  · exact w_c5
  · exact w_c6
  · exact w_c7
  · exact w_c8
  · exact w_c9
  · exact w_c10
  · exact w_c11
  · exact w_c12
  · exact w_c13
  · exact w_c14
  · exact w_c15
  · exact w_c16
  · exact w_c17
set_option maxRecDepth 65536 in
theorem w_t1 : (words1.take 24).all (fun c => isCode c || c.before args0 about1) = true := by decide +kernel
set_option maxRecDepth 65536 in
theorem w_t2 : ((words1.drop 24).take 24).all (fun c => isCode c || c.before args0 about1) = true := by decide +kernel
set_option maxRecDepth 65536 in
theorem w_t3 : (((words1.drop 24).drop 24).take 24).all (fun c => isCode c || c.before args0 about1) = true := by decide +kernel
set_option maxRecDepth 65536 in
theorem w_t4 : (((words1.drop 24).drop 24).drop 24).all (fun c => isCode c || c.before args0 about1) = true := by decide +kernel
theorem w_tables : (allAtoms (Jvm.Cond.code x code maxLocals ret :: tables_1)).before args0 about1 = true := by
  rw [allAtoms_all]
  show words1.all (fun c => c.before args0 about1) = true
  refine all_split ?_ w_codes
  rw [← List.take_append_drop 24 words1, List.all_append, w_t1, ← List.take_append_drop 24 (words1.drop 24), List.all_append, w_t2, ← List.take_append_drop 24 ((words1.drop 24).drop 24), List.all_append, w_t3, w_t4]
  rfl
set_option maxRecDepth 65536 in
theorem w_rest : rest_1_c.before args0 about1 = true := by decide +kernel
set_option maxRecDepth 65536 in
theorem w_case : (Jvm.Cond.and given_1 narrow_1).before args0 about1 = true := by decide +kernel
theorem w_applies : (headSpec (Jvm.Cond.code x code maxLocals ret :: tables_1) room_1).applies x e0.platform about1 = true :=
  (Spec.applies_iff w_frames).mpr ⟨w_running, w_runnable, w_alone, w_named, w_hears, w_ripe, w_room, w_tables⟩
theorem atStart : AtStart classFile x code maxLocals ret World_1 tables_1 room_1 Calls_1 rest_1 Pre_1 launch0 p0 e0 about1 theMethod args0 below0 :=
  ⟨lists_1, trivial, launch0.admits_env _ _ _, launch0.least_env, fairChoices_fair.cas, fairChoices_fair.clock, w_frames, w_args, w_heap, w_applies, trivial, w_rest, w_case⟩
end start1
theorem witness_1 : WitnessClaimed_1 := ⟨start1.p0, start1.e0, start1.about1, start1.theMethod, start1.args0, start1.below0, start1.atStart⟩
end Jvm.Pilot.@@N@@
