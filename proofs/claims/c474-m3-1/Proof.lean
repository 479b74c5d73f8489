import JvmDerived
import JvmDerived.Pilot.@@N@@Statement
import JvmDerived.Pilot.@@N@@Code
set_option linter.unusedVariables false
set_option linter.unusedSimpArgs false
namespace Jvm.RoadKit
open Sem ClassFile Op Lib Jvm.Stand Jvm.Free Jvm.LawKit
section New
variable {p : Program} {l : Launch} {e : Env} {R : Room} {s : State} {m : MethodId} {args : Array Value} {below : List Frame} {meth : Method} {c : Code} {T : State} {locs : List Loc} {cells slots : Nat}
theorem retI (X : Stand p l e R s m args below meth c T locs cells slots) (hx : p.tables.exec = Jvm.exec) {pc : Nat} {Ls : Array Slot} {z : Int32} {rest : List Value} (hret : meth.sig.returnType = some .int) (hd : decode c.code pc = .ok (.ireturn, 1)) {fs : List Frame}
    (hl : ∀ (f : JFrame) (acts : List Action), f.method = m → f.locked = none → f.entered = [] → (doReturn e (T.setTop f) acts (some (.int z))).1 = T.setFrames fs) : Steps p.tables e below (T.setTop (mkF m pc Ls (.int z :: rest))) (T.setFrames fs) := by
  have hm' : T.vm.method? m = some meth := X.method'
  have hn : narrow .int (.int z) = .int z := rfl
  show Steps p.tables e below (T.setTop { method := m, pc := pc, locals := Ls, stack := _ :: rest, locked := none }) _
  jvm_step X.here [X.here.top, hx, hd, hm', hret, hn]
  first | (intro acts; rw [hl _ acts rfl rfl rfl]) | rw [hl _ _ rfl rfl rfl]
  exact Steps.refl _
/-- the run goes on from here to an end of which P holds -/
def Go (tb : Tables) (e : Env) (below : List Frame) (T : State) (g : JFrame) (P : State → Prop) : Prop := ∃ U, Steps tb e below (T.setTop g) U ∧ P U
theorem go1 {tb : Tables} {T' : State} {g g' : JFrame} {P : State → Prop} (k : ∀ t, Steps tb e below (T'.setTop g') t → Steps tb e below (T.setTop g) t) (h : Go tb e below T' g' P) : Go tb e below T g P := by
  obtain ⟨U, h1, h2⟩ := h; exact ⟨U, k U h1, h2⟩
theorem goT {tb : Tables} {T' : State} {g g' : JFrame} {P : State → Prop} (k : Steps tb e below (T.setTop g) (T'.setTop g')) (h : Go tb e below T' g' P) : Go tb e below T g P := by
  obtain ⟨U, h1, h2⟩ := h; exact ⟨U, k.trans h1, h2⟩
theorem stp {tb : Tables} {T' t : State} {g g' : JFrame} (k : ∀ t, Steps tb e below (T'.setTop g') t → Steps tb e below (T.setTop g) t) (h : Steps tb e below (T'.setTop g') t) : Steps tb e below (T.setTop g) t := k t h
theorem goB {tb : Tables} {ml : Nat} {g : JFrame} {Qp : Outcome → State → Prop} (q : entryFrame m args ml = g) (h : Go tb e below T g (fun U => ∃ o, U.status = .running ∧ Ended U below o ∧ Qp o U)) :
    ∃ s₂ o, Steps tb e below (T.setTop (entryFrame m args ml)) s₂ ∧ s₂.status = .running ∧ Ended s₂ below o ∧ Qp o s₂ := by
  obtain ⟨U, h1, o, h2, h3, h4⟩ := h; exact ⟨U, o, q ▸ h1, h2, h3, h4⟩
theorem goR (X : Stand p l e R s m args below meth c T locs cells slots) (hlocks : meth.locks = false) {v : Option Value} (hv : meth.sig.returnType = none → v = none) {g : JFrame} {kc ks : Nat} (Q : Option Value → Heap → List Loc → Prop)
    (k : ∀ fs, (∀ (f : JFrame) (acts : List Action), f.method = m → f.locked = none → f.entered = [] → (doReturn e (T.setTop f) acts v).1 = T.setFrames fs) → Steps p.tables e below (T.setTop g) (T.setFrames fs)) (hc : cells ≤ kc) (hs : slots ≤ ks) (hq : Q v T.heap locs) :
    Go p.tables e below T g (fun U => ∃ o, U.status = .running ∧ Ended U below o ∧ ∃ v L, o = .returned v ∧ Q v U.heap L ∧ FrameEnd s o U L kc ks) := by
  obtain ⟨fs, hr, hrun, hended, hW, hsame⟩ := X.leave hv hlocks
  exact ⟨_, k fs hr, _, hrun, hended, _, _, rfl, hq, ⟨_, rfl⟩, hW, hsame.mono hc hs⟩
theorem fitsG {C : String} {u : Value} (h : u.isRef = true) : fits (.object C) u = true := by rcases ref_cases h with rfl | ⟨a, rfl⟩ <;> rfl
theorem selPriv {Z : State} {a0 : Array Value} {y : MethodName} {n : Nat} (hZ : Z.Warmed39 s.vm) (wi : (Cond.instantiable y.cls n).before a0 Z = true) (wp : (Cond.privateMethod y).before a0 Z = true) (wm : (Cond.instanceMethod y).before a0 Z = true) (hy : y.cls ≠ "java/lang/invoke/MethodHandle" ∧ y.cls ≠ "java/lang/invoke/VarHandle") : (Cond.selects y.cls y y).before args s = true := by
  obtain ⟨c, k, h1, h2, -, h4, -⟩ := Cond.instantiable_spec (show (Cond.instantiable y.cls n).before args s = true from mv hZ wi)
  have h5 : k.isInterface = false := by
    cases hq : k.isInterface
    · rfl
    · rw [hq] at h4; simp at h4
  exact selects_self_of_private h1 h2 h5 (Cond.privateMethod_at (mvP hZ wp (args := #[]))) (mv hZ wm) hy
theorem nsRoot {Z : State} {a0 : Array Value} {O K : String} {n : Nat} (w : (Cond.noSuperclass O).before a0 Z = true) (wk : (Cond.instantiable K n).before a0 Z = true) (hn : O ≠ K) : NS Z O K := by
  obtain ⟨c, k, h1, h2, h3, -⟩ := Cond.noSuperclass_spec w
  obtain ⟨t, kt, g1, -⟩ := Cond.instantiable_spec wk
  have ne := ids_ne h1 g1 hn
  exact ⟨c, t, h1, g1, fun fuel => by cases fuel <;> simp [Vm.isSubclassAux, ne, h2, h3]⟩
theorem nsNo {Z : State} {a0 : Array Value} {C S K : String} {n : Nat} (w : (Cond.superclass C S).before a0 Z = true) (wk : (Cond.instantiable K n).before a0 Z = true) (N : NS Z C K) (hn : C ≠ K) : ∃ c t, Z.vm.findClass C = some c ∧ Z.vm.findClass K = some t ∧ Z.vm.assignable c t = false := by
  obtain ⟨c, t, h0, g0, n3⟩ := N
  obtain ⟨pp, k, kp, -, h2, -, -, h5, -, -⟩ := Cond.superclass_spec h0 w
  obtain ⟨t', kt, g1, g2, g3, g4, -⟩ := Cond.instantiable_spec wk
  cases g0.symm.trans g1
  have ne := ids_ne h0 g0 hn
  have g5 : kt.isInterface = false := by
    cases hq : kt.isInterface
    · rfl
    · rw [hq] at g4; simp at g4
  refine ⟨c, t, h0, g0, ?_⟩
  show Z.vm.assignableAux (255 + 1) c t = false
  simp [Vm.assignableAux, ne, h2, g2, h5, g3, g5, Vm.isSubclass, n3]
theorem lenS {Z : State} {t : Term} {a : Addr} {cl : Cell} {n : Int32} {ty : FieldType} (ev : t.eval args Z none [] Z = some (.ref a)) (A : Arr Z Z.heap a cl ty) (h : (Term.length t).eval args Z none [] Z = some (.int n)) :
    cl.slots.size < 2 ^ 31 ∧ cl.slots.size.toInt32 = n ∧ cl.slots.size = n.toNatClampNeg ∧ ¬ n < 0 := by
  have ha := A.fin (Vm.Alike.refl _)
  by_cases q : cl.slots.size < 2 ^ 31
  · have e := len_f ev ha q
    rw [h] at e
    have e2 : n = cl.slots.size.toInt32 := by injection e with e; injection e
    have e3 := len_toInt q
    refine ⟨q, e2.symm, ?_, ?_⟩
    · rw [e2]; simp only [Int32.toNatClampNeg, e3]; rfl
    · rw [e2, Int32.lt_iff_toInt_lt, e3]; show ¬ (cl.slots.size : Int) < 0; omega
  · exfalso
    have q' : ¬ cl.slots.size < 2147483648 := q
    simp [Term.eval, ev, ha, q'] at h
end New
end Jvm.RoadKit
namespace Jvm.Pilot.@@N@@
open Jvm Jvm.ClassFile Sem Op Lib Jvm.Free Jvm.Stand Jvm.LawKit Jvm.RoadKit Bundle Jvm.Pilot.@@N@@.Jvm.D
theorem d9_0 : decode jdk_18_method_1_code 0 = .ok (.aload_n 0, 1) := by decide +kernel
theorem d9_1 : decode jdk_18_method_1_code 1 = .ok (.invokespecial 1, 3) := by decide +kernel
theorem d9_4 : decode jdk_18_method_1_code 4 = .ok (.return_, 1) := by decide +kernel
theorem pn_9 : plainName "java/lang/Number" = true := by first | (simp [plainName, overriddenIn]; done) | decide +kernel
theorem ef_9 (m : MethodId) (b1 : Addr) : entryFrame m #[(.ref b1)] 1 = mkF m 0 #[.val (.ref b1)] [] := by first | (simp [entryFrame, mkF, argsToLocals, Value.category]; done) | rfl
def Q9 (Z : State) (b1 : Addr) (h0 : Heap) (n0 : Nat) (v : Option Value) (h : Heap) (L : List Loc) : Prop := v = none ∧ Fr n0 L ∧ h = h0
set_option maxRecDepth 65536 in
set_option maxHeartbeats 40000000 in
theorem rm9 (l : Launch) (Z : State) (a0 : Array Value) (hw : ∀ d ∈ tables_1, d.before a0 Z = true) (ws : List Jvm.Cond) (b1 : Addr) (h0 : Heap) (n0 : Nat) (Z0 : n0 ≤ h0.size) :
    MetFree l (⟨"java/lang/Number", "<init>", "()V"⟩ : MethodName) (head1 (Jvm.Cond.code (⟨"java/lang/Number", "<init>", "()V"⟩ : MethodName) jdk_18_method_1_code 1 none :: ws) ({ frames := 1, cells := 0, slots := 0, locals := 12 } : Room)) (fun a U => a = #[(.ref b1)] ∧ Z.Warmed39 U.vm ∧ U.heap = h0) (fun _ _ _ _ _ => True) (fun _ U o U' => ∃ v L, o = .returned v ∧ Q9 Z b1 h0 n0 v U'.heap L ∧ FrameEnd U o U' L ({ frames := 1, cells := 0, slots := 0, locals := 12 } : Room).cells ({ frames := 1, cells := 0, slots := 0, locals := 12 } : Room).slots) := by
  refine MetFree.of_bodySF (plainFor_of_name pn_9) hisR ?_
  intro p e s m args below meth c s₁ Bd hml0 hP hK
  obtain ⟨rfl, hZ, hh⟩ := hP
  have hx := Bd.exec
  have hby := Bd.bytes
  have hml : c.maxLocals = 1 := hml0
  have hown : s.vm.findClass "java/lang/Number" = some m.cls := findClass_of_methodNamed Bd.named
  have hnm := (name_of_methodNamed Bd.named Bd.method).1
  have X0 : Stand p l e ({ frames := 1, cells := 0, slots := 0, locals := 12 } : Room) s m #[(.ref b1)] below meth c s₁ [] 0 0 := Stand.of_body Bd
  have e0 : s₁.heap = h0 := by rw [← hh, Bd.state]; rfl
  have N0 := Fr.nil n0
  refine goB (ef_9 m b1) ?_
  show Go p.tables e below s₁ (mkF m 0 #[.val (.ref b1)] []) _
  refine go1 (fun _ => XS.aloadN X0.here hx rfl (hb hby d9_0) rfl rfl) ?_
  show Go p.tables e below s₁ (mkF m 1 #[.val (.ref b1)] [(.ref b1)]) _
  obtain ⟨T1, X1, e1, st1⟩ := initO X0 hx hZ hown (hw _ (List.mem_of_getElem? (i := 58) rfl)) (hw _ (List.mem_of_getElem? (i := 15) rfl)) (hw _ (List.mem_of_getElem? (i := 16) rfl)) e0 (g := (mkF m 1 #[.val (.ref b1)] [(.ref b1)])) rfl (by rw [hml]; rfl) rfl (hb hby d9_1) (by decide) (W := 0) (by show 2 * 0 + _ ≤ _; exact Nat.le_of_eq rfl) (by decide)
  refine go1 st1 ?_
  show Go p.tables e below T1 (mkF m 4 #[.val (.ref b1)] []) _
  refine goR X1 (BodyLoose.notSynchronized Bd) (v := none) (fun _ => rfl) (Q9 Z b1 h0 n0) (fun fs hr => X1.returnOut hx Bd.returns (hb hby d9_4) hr) (by decide) (by decide) ?_
  show Q9 Z b1 h0 n0 _ T1.heap _
  rw [e1]
  exact ⟨rfl, N0, rfl⟩
theorem own_int (p : Int32) (h1 : ¬ p < (-128 : Int32)) (h2 : ¬ (127 : Int32) < p) : ¬ (p + (128 : Int32)) < 0 ∧ (p + (128 : Int32)) < (256 : Int32) := by
  have c1 := c_iadd p (128 : Int32)
  have r1 := rng32 (p + (128 : Int32))
  have k1 := mt Int32.lt_iff_toInt_lt.mpr h1
  have k2 := mt Int32.lt_iff_toInt_lt.mpr h2
  have l1 : (128 : Int32).toInt = 128 := by decide
  have l2 : (-128 : Int32).toInt = -128 := by decide
  have l3 : (127 : Int32).toInt = 127 := by decide
  have l4 : (256 : Int32).toInt = 256 := by decide
  have l5 : (0 : Int32).toInt = 0 := by decide
  rw [Int32.lt_iff_toInt_lt, Int32.lt_iff_toInt_lt]
  omega
theorem own_intb (p : Int32) : ((p + (128 : Int32)) - (128 : Int32)) = p := by
  have c1 := c_iadd p (128 : Int32)
  have c2 := c_isub (p + (128 : Int32)) (128 : Int32)
  have r1 := rng32 ((p + (128 : Int32)) - (128 : Int32))
  have r2 := rng32 p
  rw [← Int32.toInt_inj]
  omega
theorem d8_0 : decode jdk_33_method_23_code 0 = .ok (.aload_n 0, 1) := by decide +kernel
theorem d8_1 : decode jdk_33_method_23_code 1 = .ok (.invokespecial 202, 3) := by decide +kernel
theorem d8_4 : decode jdk_33_method_23_code 4 = .ok (.aload_n 0, 1) := by decide +kernel
theorem d8_5 : decode jdk_33_method_23_code 5 = .ok (.iload_n 1, 1) := by decide +kernel
theorem d8_6 : decode jdk_33_method_23_code 6 = .ok (.putfield 205, 3) := by decide +kernel
theorem d8_9 : decode jdk_33_method_23_code 9 = .ok (.return_, 1) := by decide +kernel
theorem pn_8 : plainName "java/lang/Integer" = true := by first | (simp [plainName, overriddenIn]; done) | decide +kernel
theorem pd8_0 : parseMethodDescriptor "()V" = some ⟨[], none⟩ := by decide +kernel
theorem ef_8 (m : MethodId) (b1 : Addr) (p1 : Int32) : entryFrame m #[(.ref b1), (.int p1)] 2 = mkF m 0 #[.val (.ref b1), .val (.int p1)] [] := by first | (simp [entryFrame, mkF, argsToLocals, Value.category]; done) | rfl
def Q8 (Z : State) (b1 : Addr) (p1 : Int32) (h0 : Heap) (n0 : Nat) (v : Option Value) (h : Heap) (L : List Loc) : Prop := v = none ∧ Fr n0 L ∧ Keep h0 h [b1] ∧ Exa Z h b1 "java/lang/Integer" ∧ Fld Z h b1 "java/lang/Integer" "value" "I" (.int p1)
set_option maxRecDepth 65536 in
set_option maxHeartbeats 40000000 in
theorem rm8 (l : Launch) (Z : State) (a0 : Array Value) (hw : ∀ d ∈ tables_1, d.before a0 Z = true) (ws : List Jvm.Cond) (b1 : Addr) (p1 : Int32) (h0 : Heap) (n0 : Nat) (Z0 : n0 ≤ h0.size) (F_value_b1 : Fld Z h0 b1 "java/lang/Integer" "value" "I" (.int (0 : Int32))) (E_b1 : Exa Z h0 b1 "java/lang/Integer") (g_b1 : n0 ≤ b1) :
    MetFree l (⟨"java/lang/Integer", "<init>", "(I)V"⟩ : MethodName) (head1 (Jvm.Cond.code (⟨"java/lang/Integer", "<init>", "(I)V"⟩ : MethodName) jdk_33_method_23_code 2 none :: ws) ({ frames := 2, cells := 0, slots := 0, locals := 24 } : Room)) (fun a U => a = #[(.ref b1), (.int p1)] ∧ Z.Warmed39 U.vm ∧ U.heap = h0) (fun _ _ _ _ _ => True) (fun _ U o U' => ∃ v L, o = .returned v ∧ Q8 Z b1 p1 h0 n0 v U'.heap L ∧ FrameEnd U o U' L ({ frames := 2, cells := 0, slots := 0, locals := 24 } : Room).cells ({ frames := 2, cells := 0, slots := 0, locals := 24 } : Room).slots) := by
  refine MetFree.of_bodySF (plainFor_of_name pn_8) hisR ?_
  intro p e s m args below meth c s₁ Bd hml0 hP hK
  obtain ⟨rfl, hZ, hh⟩ := hP
  have hx := Bd.exec
  have hby := Bd.bytes
  have hml : c.maxLocals = 2 := hml0
  have hown : s.vm.findClass "java/lang/Integer" = some m.cls := findClass_of_methodNamed Bd.named
  have hnm := (name_of_methodNamed Bd.named Bd.method).1
  have X0 : Stand p l e ({ frames := 2, cells := 0, slots := 0, locals := 24 } : Room) s m #[(.ref b1), (.int p1)] below meth c s₁ [] 0 0 := Stand.of_body Bd
  have e0 : s₁.heap = h0 := by rw [← hh, Bd.state]; rfl
  have N0 := Fr.nil n0
  refine goB (ef_8 m b1 p1) ?_
  show Go p.tables e below s₁ (mkF m 0 #[.val (.ref b1), .val (.int p1)] []) _
  refine go1 (fun _ => XS.aloadN X0.here hx rfl (hb hby d8_0) rfl rfl) ?_
  show Go p.tables e below s₁ (mkF m 1 #[.val (.ref b1), .val (.int p1)] [(.ref b1)]) _
  obtain ⟨_, _, ⟨T1, L1, k1, n1⟩, -, X1, ⟨Lc1, hQ1, l1, y1, z1⟩, st1⟩ := X0.specialBack hx (y := (⟨"java/lang/Number", "<init>", "()V"⟩ : MethodName)) rfl hown (mvT hZ (hw _ (List.mem_of_getElem? (i := 52) rfl))) (mvT hZ (hw _ (List.mem_of_getElem? (i := 53) rfl))) (mvT hZ (hw _ (List.mem_of_getElem? (i := 57) rfl))) (by decide) (backOf (W := 0) (rm9 l Z a0 hw [] b1 h0 n0 Z0 ) hZ (hw _ (List.mem_of_getElem? (i := 57) rfl)) (hw _ (List.mem_of_getElem? (i := 56) rfl)) (by decide) (by decide)) (g := (mkF m 1 #[.val (.ref b1), .val (.int p1)] [(.ref b1)])) rfl (by rw [hml]; rfl) (Steps.refl _) (a := b1) (argsL := []) (rest := []) (lenOf pd8_0 rfl) rfl (by show 2 * 0 + _ ≤ _; exact Nat.le_of_eq rfl) (hb hby d8_1) (fun _ _ => ⟨rfl, e0, (by decide : 0 + 0 ≤ _), (by decide : 0 + 0 ≤ _)⟩)
  dsimp only [Pt.U, Pt.locs, Pt.cells, Pt.slots] at X1 l1 y1 z1 st1 hQ1
  subst l1 y1 z1
  obtain ⟨rfl, N1q, e1⟩ := hQ1
  have N1 := Fr.app N0 N1q
  refine goT st1 ?_
  show Go p.tables e below T1 (mkF m 4 #[.val (.ref b1), .val (.int p1)] []) _
  refine go1 (fun _ => XS.aloadN X1.here hx rfl (hb hby d8_4) rfl rfl) ?_
  show Go p.tables e below T1 (mkF m 5 #[.val (.ref b1), .val (.int p1)] [(.ref b1)]) _
  refine go1 (fun _ => XS.iloadN X1.here hx rfl (hb hby d8_5) rfl) ?_
  show Go p.tables e below T1 (mkF m 6 #[.val (.ref b1), .val (.int p1)] [(.int p1), (.ref b1)]) _
  obtain ⟨T2, h2, X2, e2, W2, st2⟩ := putF X1 hx hZ hown (host := "") (Or.inl (hw _ (List.mem_of_getElem? (i := 59) rfl))) Via.refl e1 F_value_b1 E_b1 (Or.inr ⟨(hw _ (List.mem_of_getElem? (i := 60) rfl)), rfl, hnm⟩) (hw _ (List.mem_of_getElem? (i := 47) rfl)) (ty := .int) (by decide) rfl rfl (g := (mkF m 6 #[.val (.ref b1), .val (.int p1)] [(.int p1), (.ref b1)])) rfl rfl (hb hby d8_6)
  refine go1 st2 ?_
  have Fw2 := F_value_b1.same W2
  have N2 := Fr.snoc X2 N1 g_b1
  show Go p.tables e below T2 (mkF m 9 #[.val (.ref b1), .val (.int p1)] []) _
  refine goR X2 (BodyLoose.notSynchronized Bd) (v := none) (fun _ => rfl) (Q8 Z b1 p1 h0 n0) (fun fs hr => X2.returnOut hx Bd.returns (hb hby d8_9) hr) (by decide) (by decide) ?_
  show Q8 Z b1 p1 h0 n0 _ T2.heap _
  rw [e2]
  exact ⟨rfl, N2, ((Keep.refl h0 [b1]).wr W2 (Or.inl (List.mem_of_getElem? (i := 0) rfl))), (E_b1.wr W2), Fw2⟩
theorem d1_0 : decode jdk_33_method_22_code 0 = .ok (.iload_n 0, 1) := by decide +kernel
theorem d1_1 : decode jdk_33_method_22_code 1 = .ok (.bipush (-128), 2) := by decide +kernel
theorem d1_3 : decode jdk_33_method_22_code 3 = .ok (.if_icmp .lt 20, 3) := by decide +kernel
theorem d1_6 : decode jdk_33_method_22_code 6 = .ok (.iload_n 0, 1) := by decide +kernel
theorem d1_7 : decode jdk_33_method_22_code 7 = .ok (.getstatic 191, 3) := by decide +kernel
theorem d1_10 : decode jdk_33_method_22_code 10 = .ok (.if_icmp .gt 13, 3) := by decide +kernel
theorem d1_13 : decode jdk_33_method_22_code 13 = .ok (.getstatic 195, 3) := by decide +kernel
theorem d1_16 : decode jdk_33_method_22_code 16 = .ok (.iload_n 0, 1) := by decide +kernel
theorem d1_17 : decode jdk_33_method_22_code 17 = .ok (.sipush 128, 3) := by decide +kernel
theorem d1_20 : decode jdk_33_method_22_code 20 = .ok (.iadd, 1) := by decide +kernel
theorem d1_21 : decode jdk_33_method_22_code 21 = .ok (.aaload, 1) := by decide +kernel
theorem d1_22 : decode jdk_33_method_22_code 22 = .ok (.areturn, 1) := by decide +kernel
theorem d1_23 : decode jdk_33_method_22_code 23 = .ok (.new 1, 3) := by decide +kernel
theorem d1_26 : decode jdk_33_method_22_code 26 = .ok (.dup, 1) := by decide +kernel
theorem d1_27 : decode jdk_33_method_22_code 27 = .ok (.iload_n 0, 1) := by decide +kernel
theorem d1_28 : decode jdk_33_method_22_code 28 = .ok (.invokespecial 199, 3) := by decide +kernel
theorem d1_31 : decode jdk_33_method_22_code 31 = .ok (.areturn, 1) := by decide +kernel
theorem pn_1 : plainName "java/lang/Integer" = true := by first | (simp [plainName, overriddenIn]; done) | decide +kernel
theorem pd1_0 : parseMethodDescriptor "(I)V" = some ⟨[.int], none⟩ := by decide +kernel
theorem ef_1 (m : MethodId) (p1 : Int32) : entryFrame m #[(.int p1)] 1 = mkF m 0 #[.val (.int p1)] [] := by first | (simp [entryFrame, mkF, argsToLocals, Value.category]; done) | rfl
def Q1 (Z : State) (p1 : Int32) (a_cache : Addr) (h0 : Heap) (n0 : Nat) (v : Option Value) (h : Heap) (L : List Loc) : Prop := ∃ (b : Addr), v = some (.ref b) ∧ Fr n0 L ∧ Keep h0 h [] ∧ Exa Z h b "java/lang/Integer" ∧ Fld Z h b "java/lang/Integer" "value" "I" (.int p1)
set_option maxRecDepth 65536 in
set_option maxHeartbeats 40000000 in
theorem rm1 (l : Launch) (Z : State) (a0 : Array Value) (hw : ∀ d ∈ tables_1, d.before a0 Z = true) (ws : List Jvm.Cond) (p1 : Int32) (a_cache : Addr) (h0 : Heap) (n0 : Nat) (Z0 : n0 ≤ h0.size) (O0 : Old Z n0 h0) (S_high : Sta Z Z.heap "java/lang/Integer$IntegerCache" "high" "I" (.int (127 : Int32))) (S_cache : Sta Z Z.heap "java/lang/Integer$IntegerCache" "cache" "[Ljava/lang/Integer;" (.ref a_cache)) (BX_a_cache : ∃ cB : Cell, Bxs Z a_cache cB "java/lang/Integer" "I" (256 : Int32) (fun j => .int (j - (128 : Int32)))) :
    MetFree l (⟨"java/lang/Integer", "valueOf", "(I)Ljava/lang/Integer;"⟩ : MethodName) (head1 (Jvm.Cond.code (⟨"java/lang/Integer", "valueOf", "(I)Ljava/lang/Integer;"⟩ : MethodName) jdk_33_method_22_code 1 (some (.object "java/lang/Integer")) :: ws) ({ frames := 3, cells := 1, slots := 1, locals := 38 } : Room)) (fun a U => a = #[(.int p1)] ∧ Z.Warmed39 U.vm ∧ U.heap = h0) (fun _ _ _ _ _ => True) (fun _ U o U' => ∃ v L, o = .returned v ∧ Q1 Z p1 a_cache h0 n0 v U'.heap L ∧ FrameEnd U o U' L ({ frames := 3, cells := 1, slots := 1, locals := 38 } : Room).cells ({ frames := 3, cells := 1, slots := 1, locals := 38 } : Room).slots) := by
  refine MetFree.of_bodySF (plainFor_of_name pn_1) hisR ?_
  intro p e s m args below meth c s₁ Bd hml0 hP hK
  obtain ⟨rfl, hZ, hh⟩ := hP
  have hx := Bd.exec
  have hby := Bd.bytes
  have hml : c.maxLocals = 1 := hml0
  have hown : s.vm.findClass "java/lang/Integer" = some m.cls := findClass_of_methodNamed Bd.named
  have hnm := (name_of_methodNamed Bd.named Bd.method).1
  have X0 : Stand p l e ({ frames := 3, cells := 1, slots := 1, locals := 38 } : Room) s m #[(.int p1)] below meth c s₁ [] 0 0 := Stand.of_body Bd
  have e0 : s₁.heap = h0 := by rw [← hh, Bd.state]; rfl
  have N0 := Fr.nil n0
  refine goB (ef_1 m p1) ?_
  show Go p.tables e below s₁ (mkF m 0 #[.val (.int p1)] []) _
  refine go1 (fun _ => XS.iloadN X0.here hx rfl (hb hby d1_0) rfl) ?_
  show Go p.tables e below s₁ (mkF m 1 #[.val (.int p1)] [(.int p1)]) _
  refine go1 (fun _ => XS.bipush X0.here hx rfl (hb hby d1_1)) ?_
  show Go p.tables e below s₁ (mkF m 3 #[.val (.int p1)] [(.int (-128 : Int32)), (.int p1)]) _
  by_cases hc1 : p1 < (-128 : Int32)
  · skip
    refine go1 (fun _ => XS.icmpYes X0.here hx rfl (pc0 := 3) (pc' := 23) rfl (hb hby d1_3) rfl (tlt hc1).1 (by decide) (by decide)) ?_
    show Go p.tables e below s₁ (mkF m 23 #[.val (.int p1)] []) _
    obtain ⟨T2, h2, X2, e2, E2, A2, D2, -, st2⟩ := newO X0 hx hZ hown (hw _ (List.mem_of_getElem? (i := 46) rfl)) (hw _ (List.mem_of_getElem? (i := 47) rfl)) (hw _ (List.mem_of_getElem? (i := 6) rfl)) e0 (g := (mkF m 23 #[.val (.int p1)] [])) rfl (hb hby d1_23) (by decide) (by decide)
    obtain ⟨b2, g2⟩ : ∃ z, z = h0.size := ⟨_, rfl⟩
    rw [← g2] at A2 D2 st2
    have g_b2 : n0 ≤ b2 := Nat.le_trans Z0 (Nat.le_of_eq g2.symm)
    have F_value_b2 : Fld Z h2 b2 "java/lang/Integer" "value" "I" (.int (0 : Int32)) := D2 (Or.inr (hw _ (List.mem_of_getElem? (i := 60) rfl))) (ty := .int) (by decide)
    refine go1 st2 ?_
    show Go p.tables e below T2 (mkF m 26 #[.val (.int p1)] [(.ref b2)]) _
    refine go1 (fun _ => XS.dup X2.here hx rfl (hb hby d1_26) rfl rfl) ?_
    show Go p.tables e below T2 (mkF m 27 #[.val (.int p1)] [(.ref b2), (.ref b2)]) _
    refine go1 (fun _ => XS.iloadN X2.here hx rfl (hb hby d1_27) rfl) ?_
    show Go p.tables e below T2 (mkF m 28 #[.val (.int p1)] [(.int p1), (.ref b2), (.ref b2)]) _
    obtain ⟨_, _, ⟨T3, L3, k3, n3⟩, -, X3, ⟨Lc3, hQ3, l3, y3, z3⟩, st3⟩ := X2.specialBack hx (y := (⟨"java/lang/Integer", "<init>", "(I)V"⟩ : MethodName)) rfl hown (mvT hZ (hw _ (List.mem_of_getElem? (i := 48) rfl))) (mvT hZ (hw _ (List.mem_of_getElem? (i := 49) rfl))) (mvT hZ (hw _ (List.mem_of_getElem? (i := 51) rfl))) (by decide) (backOf (W := 1) (rm8 l Z a0 hw [] b2 p1 h2 n0 (Nat.le_trans Z0 E2.1) F_value_b2 A2 g_b2) hZ (hw _ (List.mem_of_getElem? (i := 51) rfl)) (hw _ (List.mem_of_getElem? (i := 6) rfl)) (by decide) (by decide)) (g := (mkF m 28 #[.val (.int p1)] [(.int p1), (.ref b2), (.ref b2)])) rfl (by rw [hml]; rfl) (Steps.refl _) (a := b2) (argsL := [(.int p1)]) (rest := [(.ref b2)]) (lenOf pd1_0 rfl) rfl (by show 2 * 0 + _ ≤ _; exact Nat.le_of_eq rfl) (hb hby d1_28) (fun _ _ => ⟨rfl, e2, (by decide : 1 + 0 ≤ _), (by decide : 1 + 0 ≤ _)⟩)
    dsimp only [Pt.U, Pt.locs, Pt.cells, Pt.slots] at X3 l3 y3 z3 st3 hQ3
    subst l3 y3 z3
    obtain ⟨rfl, N3q, K3, G3_0, G3_1⟩ := hQ3
    have N3 := Fr.app N0 N3q
    refine goT st3 ?_
    show Go p.tables e below T3 (mkF m 31 #[.val (.int p1)] [(.ref b2)]) _
    refine goR X3 (BodyLoose.notSynchronized Bd) (v := (some (.ref b2))) (fun h => by rw [Bd.returns] at h; cases h) (Q1 Z p1 a_cache h0 n0) (fun fs hr => retOut X3 hx (t := (.object "java/lang/Integer")) (w := (.ref b2)) Bd.returns rfl (Or.inr (Or.inr (Or.inr (Or.inr ⟨rfl, rfl, rfl⟩)))) (hb hby d1_31) hr) (by decide) (by decide) ?_
    show Q1 Z p1 a_cache h0 n0 _ T3.heap _
    exact ⟨b2, rfl, N3, (((Keep.refl h0 []).ext E2).trans K3 (allS (Or.inr (Nat.le_trans (Nat.le_refl h0.size) (Nat.le_of_eq g2.symm))) all0)), G3_0, G3_1⟩
  · skip
    refine go1 (fun _ => XS.icmpNo X0.here hx rfl (hb hby d1_3) rfl (flt hc1).1) ?_
    show Go p.tables e below s₁ (mkF m 6 #[.val (.int p1)] []) _
    refine go1 (fun _ => XS.iloadN X0.here hx rfl (hb hby d1_6) rfl) ?_
    show Go p.tables e below s₁ (mkF m 7 #[.val (.int p1)] [(.int p1)]) _
    obtain ⟨T4, X4, e4, st4⟩ := getS2 X0 hx hZ hown (host := "") (Or.inl (hw _ (List.mem_of_getElem? (i := 8) rfl))) Via.refl e0 (S_high.ext O0.2) (g := (mkF m 7 #[.val (.int p1)] [(.int p1)])) rfl (hb hby d1_7)
    refine go1 st4 ?_
    show Go p.tables e below T4 (mkF m 10 #[.val (.int p1)] [(.int (127 : Int32)), (.int p1)]) _
    by_cases hc5 : (127 : Int32) < p1
    · skip
      refine go1 (fun _ => XS.icmpYes X4.here hx rfl (pc0 := 10) (pc' := 23) rfl (hb hby d1_10) rfl (tlt hc5).2.2.1 (by decide) (by decide)) ?_
      show Go p.tables e below T4 (mkF m 23 #[.val (.int p1)] []) _
      obtain ⟨T6, h6, X6, e6, E6, A6, D6, -, st6⟩ := newO X4 hx hZ hown (hw _ (List.mem_of_getElem? (i := 46) rfl)) (hw _ (List.mem_of_getElem? (i := 47) rfl)) (hw _ (List.mem_of_getElem? (i := 6) rfl)) e4 (g := (mkF m 23 #[.val (.int p1)] [])) rfl (hb hby d1_23) (by decide) (by decide)
      obtain ⟨b6, g6⟩ : ∃ z, z = h0.size := ⟨_, rfl⟩
      rw [← g6] at A6 D6 st6
      have g_b6 : n0 ≤ b6 := Nat.le_trans Z0 (Nat.le_of_eq g6.symm)
      have F_value_b6 : Fld Z h6 b6 "java/lang/Integer" "value" "I" (.int (0 : Int32)) := D6 (Or.inr (hw _ (List.mem_of_getElem? (i := 60) rfl))) (ty := .int) (by decide)
      refine go1 st6 ?_
      show Go p.tables e below T6 (mkF m 26 #[.val (.int p1)] [(.ref b6)]) _
      refine go1 (fun _ => XS.dup X6.here hx rfl (hb hby d1_26) rfl rfl) ?_
      show Go p.tables e below T6 (mkF m 27 #[.val (.int p1)] [(.ref b6), (.ref b6)]) _
      refine go1 (fun _ => XS.iloadN X6.here hx rfl (hb hby d1_27) rfl) ?_
      show Go p.tables e below T6 (mkF m 28 #[.val (.int p1)] [(.int p1), (.ref b6), (.ref b6)]) _
      obtain ⟨_, _, ⟨T7, L7, k7, n7⟩, -, X7, ⟨Lc7, hQ7, l7, y7, z7⟩, st7⟩ := X6.specialBack hx (y := (⟨"java/lang/Integer", "<init>", "(I)V"⟩ : MethodName)) rfl hown (mvT hZ (hw _ (List.mem_of_getElem? (i := 48) rfl))) (mvT hZ (hw _ (List.mem_of_getElem? (i := 49) rfl))) (mvT hZ (hw _ (List.mem_of_getElem? (i := 51) rfl))) (by decide) (backOf (W := 1) (rm8 l Z a0 hw [] b6 p1 h6 n0 (Nat.le_trans Z0 E6.1) F_value_b6 A6 g_b6) hZ (hw _ (List.mem_of_getElem? (i := 51) rfl)) (hw _ (List.mem_of_getElem? (i := 6) rfl)) (by decide) (by decide)) (g := (mkF m 28 #[.val (.int p1)] [(.int p1), (.ref b6), (.ref b6)])) rfl (by rw [hml]; rfl) (Steps.refl _) (a := b6) (argsL := [(.int p1)]) (rest := [(.ref b6)]) (lenOf pd1_0 rfl) rfl (by show 2 * 0 + _ ≤ _; exact Nat.le_of_eq rfl) (hb hby d1_28) (fun _ _ => ⟨rfl, e6, (by decide : 1 + 0 ≤ _), (by decide : 1 + 0 ≤ _)⟩)
      dsimp only [Pt.U, Pt.locs, Pt.cells, Pt.slots] at X7 l7 y7 z7 st7 hQ7
      subst l7 y7 z7
      obtain ⟨rfl, N7q, K7, G7_0, G7_1⟩ := hQ7
      have N7 := Fr.app N0 N7q
      refine goT st7 ?_
      show Go p.tables e below T7 (mkF m 31 #[.val (.int p1)] [(.ref b6)]) _
      refine goR X7 (BodyLoose.notSynchronized Bd) (v := (some (.ref b6))) (fun h => by rw [Bd.returns] at h; cases h) (Q1 Z p1 a_cache h0 n0) (fun fs hr => retOut X7 hx (t := (.object "java/lang/Integer")) (w := (.ref b6)) Bd.returns rfl (Or.inr (Or.inr (Or.inr (Or.inr ⟨rfl, rfl, rfl⟩)))) (hb hby d1_31) hr) (by decide) (by decide) ?_
      show Q1 Z p1 a_cache h0 n0 _ T7.heap _
      exact ⟨b6, rfl, N7, (((Keep.refl h0 []).ext E6).trans K7 (allS (Or.inr (Nat.le_trans (Nat.le_refl h0.size) (Nat.le_of_eq g6.symm))) all0)), G7_0, G7_1⟩
    · skip
      refine go1 (fun _ => XS.icmpNo X4.here hx rfl (hb hby d1_10) rfl (flt hc5).2.2.1) ?_
      show Go p.tables e below T4 (mkF m 13 #[.val (.int p1)] []) _
      obtain ⟨T8, X8, e8, st8⟩ := getS2 X4 hx hZ hown (host := "") (Or.inl (hw _ (List.mem_of_getElem? (i := 10) rfl))) Via.refl e4 (S_cache.ext O0.2) (g := (mkF m 13 #[.val (.int p1)] [])) rfl (hb hby d1_13)
      refine go1 st8 ?_
      show Go p.tables e below T8 (mkF m 16 #[.val (.int p1)] [(.ref a_cache)]) _
      refine go1 (fun _ => XS.iloadN X8.here hx rfl (hb hby d1_16) rfl) ?_
      show Go p.tables e below T8 (mkF m 17 #[.val (.int p1)] [(.int p1), (.ref a_cache)]) _
      refine go1 (fun _ => XS.sipush X8.here hx rfl (hb hby d1_17)) ?_
      show Go p.tables e below T8 (mkF m 20 #[.val (.int p1)] [(.int (128 : Int32)), (.int p1), (.ref a_cache)]) _
      refine go1 (fun _ => XS.iadd X8.here hx rfl (hb hby d1_20) rfl) ?_
      show Go p.tables e below T8 (mkF m 21 #[.val (.int p1)] [(.int (p1 + (128 : Int32))), (.ref a_cache)]) _
      have vo9 := BX_a_cache
      obtain ⟨cB9, BB9⟩ := vo9
      have hin9 := inb_of BB9.2.1 (own_int p1 hc1 hc5)
      obtain ⟨bx9, hat9, EB9, FB9⟩ := BB9.2.2.2 (p1 + (128 : Int32)) hin9
      have FC9 : Fld Z Z.heap bx9 "java/lang/Integer" "value" "I" (.int p1) := by
        have q := own_intb p1
        have r : Fld Z Z.heap bx9 "java/lang/Integer" "value" "I" (.int ((p1 + (128 : Int32)) - (128 : Int32))) := FB9
        rw [q] at r
        exact r
      refine go1 (X8.aaload hx (j := (p1 + (128 : Int32))) (v := .ref bx9) (by rw [e8]; exact (BB9.1.ext O0.2).1) (State.isArrayOf_alike hZ.alike BB9.1.2.1) rfl BB9.1.2.2 hin9 hat9 (g := (mkF m 21 #[.val (.int p1)] [(.int (p1 + (128 : Int32))), (.ref a_cache)])) rfl rfl (hb hby d1_21)) ?_
      show Go p.tables e below T8 (mkF m 22 #[.val (.int p1)] [(.ref bx9)]) _
      refine goR X8 (BodyLoose.notSynchronized Bd) (v := (some (.ref bx9))) (fun h => by rw [Bd.returns] at h; cases h) (Q1 Z p1 a_cache h0 n0) (fun fs hr => retOut X8 hx (t := (.object "java/lang/Integer")) (w := (.ref bx9)) Bd.returns rfl (Or.inr (Or.inr (Or.inr (Or.inr ⟨rfl, rfl, rfl⟩)))) (hb hby d1_22) hr) (by decide) (by decide) ?_
      show Q1 Z p1 a_cache h0 n0 _ T8.heap _
      rw [e8]
      exact ⟨bx9, rfl, N0, (Keep.refl h0 []), (EB9.ext O0.2), (FC9.ext O0.2)⟩
theorem d2_0 : decode prog_6_method_1_code 0 = .ok (.aload_n 0, 1) := by decide +kernel
theorem d2_1 : decode prog_6_method_1_code 1 = .ok (.invokespecial 1, 3) := by decide +kernel
theorem d2_4 : decode prog_6_method_1_code 4 = .ok (.aload_n 0, 1) := by decide +kernel
theorem d2_5 : decode prog_6_method_1_code 5 = .ok (.aload_n 1, 1) := by decide +kernel
theorem d2_6 : decode prog_6_method_1_code 6 = .ok (.putfield 7, 3) := by decide +kernel
theorem d2_9 : decode prog_6_method_1_code 9 = .ok (.aload_n 0, 1) := by decide +kernel
theorem d2_10 : decode prog_6_method_1_code 10 = .ok (.aload_n 2, 1) := by decide +kernel
theorem d2_11 : decode prog_6_method_1_code 11 = .ok (.putfield 13, 3) := by decide +kernel
theorem d2_14 : decode prog_6_method_1_code 14 = .ok (.aload_n 0, 1) := by decide +kernel
theorem d2_15 : decode prog_6_method_1_code 15 = .ok (.iconst 1, 1) := by decide +kernel
theorem d2_16 : decode prog_6_method_1_code 16 = .ok (.putfield 16, 3) := by decide +kernel
theorem d2_19 : decode prog_6_method_1_code 19 = .ok (.return_, 1) := by decide +kernel
theorem pn_2 : plainName "com/example/carmine/carmine/Node" = true := by first | (simp [plainName, overriddenIn]; done) | decide +kernel
theorem ef_2 (m : MethodId) (b1 : Addr) (k1 : Addr) (v1 : Addr) : entryFrame m #[(.ref b1), (.ref k1), (.ref v1)] 3 = mkF m 0 #[.val (.ref b1), .val (.ref k1), .val (.ref v1)] [] := by first | (simp [entryFrame, mkF, argsToLocals, Value.category]; done) | rfl
def Q2 (Z : State) (b1 : Addr) (k1 : Addr) (v1 : Addr) (h0 : Heap) (n0 : Nat) (v : Option Value) (h : Heap) (L : List Loc) : Prop := v = none ∧ Fr n0 L ∧ Keep h0 h [b1] ∧ Exa Z h b1 "com/example/carmine/carmine/Node" ∧ Fld Z h b1 "com/example/carmine/carmine/Node" "key" "Ljava/lang/Object;" (.ref k1) ∧ Fld Z h b1 "com/example/carmine/carmine/Node" "value" "Ljava/lang/Object;" (.ref v1) ∧ Fld Z h b1 "com/example/carmine/carmine/Node" "sizeAndColours" "I" (.int (1 : Int32))
set_option maxRecDepth 65536 in
set_option maxHeartbeats 40000000 in
theorem rm2 (l : Launch) (Z : State) (a0 : Array Value) (hw : ∀ d ∈ tables_1, d.before a0 Z = true) (ws : List Jvm.Cond) (b1 : Addr) (k1 : Addr) (v1 : Addr) (h0 : Heap) (n0 : Nat) (Z0 : n0 ≤ h0.size) (F_key_b1 : Fld Z h0 b1 "com/example/carmine/carmine/Node" "key" "Ljava/lang/Object;" .null) (F_value_b1 : Fld Z h0 b1 "com/example/carmine/carmine/Node" "value" "Ljava/lang/Object;" .null) (F_sizeAndColours_b1 : Fld Z h0 b1 "com/example/carmine/carmine/Node" "sizeAndColours" "I" (.int (0 : Int32))) (E_b1 : Exa Z h0 b1 "com/example/carmine/carmine/Node") (g_b1 : n0 ≤ b1) :
    MetFree l (⟨"com/example/carmine/carmine/Node", "<init>", "(Ljava/lang/Object;Ljava/lang/Object;)V"⟩ : MethodName) (head1 (Jvm.Cond.code (⟨"com/example/carmine/carmine/Node", "<init>", "(Ljava/lang/Object;Ljava/lang/Object;)V"⟩ : MethodName) prog_6_method_1_code 3 none :: ws) ({ frames := 1, cells := 0, slots := 0, locals := 12 } : Room)) (fun a U => a = #[(.ref b1), (.ref k1), (.ref v1)] ∧ Z.Warmed39 U.vm ∧ U.heap = h0) (fun _ _ _ _ _ => True) (fun _ U o U' => ∃ v L, o = .returned v ∧ Q2 Z b1 k1 v1 h0 n0 v U'.heap L ∧ FrameEnd U o U' L ({ frames := 1, cells := 0, slots := 0, locals := 12 } : Room).cells ({ frames := 1, cells := 0, slots := 0, locals := 12 } : Room).slots) := by
  refine MetFree.of_bodySF (plainFor_of_name pn_2) hisR ?_
  intro p e s m args below meth c s₁ Bd hml0 hP hK
  obtain ⟨rfl, hZ, hh⟩ := hP
  have hx := Bd.exec
  have hby := Bd.bytes
  have hml : c.maxLocals = 3 := hml0
  have hown : s.vm.findClass "com/example/carmine/carmine/Node" = some m.cls := findClass_of_methodNamed Bd.named
  have hnm := (name_of_methodNamed Bd.named Bd.method).1
  have X0 : Stand p l e ({ frames := 1, cells := 0, slots := 0, locals := 12 } : Room) s m #[(.ref b1), (.ref k1), (.ref v1)] below meth c s₁ [] 0 0 := Stand.of_body Bd
  have e0 : s₁.heap = h0 := by rw [← hh, Bd.state]; rfl
  have N0 := Fr.nil n0
  refine goB (ef_2 m b1 k1 v1) ?_
  show Go p.tables e below s₁ (mkF m 0 #[.val (.ref b1), .val (.ref k1), .val (.ref v1)] []) _
  refine go1 (fun _ => XS.aloadN X0.here hx rfl (hb hby d2_0) rfl rfl) ?_
  show Go p.tables e below s₁ (mkF m 1 #[.val (.ref b1), .val (.ref k1), .val (.ref v1)] [(.ref b1)]) _
  obtain ⟨T1, X1, e1, st1⟩ := initO X0 hx hZ hown (hw _ (List.mem_of_getElem? (i := 14) rfl)) (hw _ (List.mem_of_getElem? (i := 15) rfl)) (hw _ (List.mem_of_getElem? (i := 16) rfl)) e0 (g := (mkF m 1 #[.val (.ref b1), .val (.ref k1), .val (.ref v1)] [(.ref b1)])) rfl (by rw [hml]; rfl) rfl (hb hby d2_1) (by decide) (W := 0) (by show 2 * 0 + _ ≤ _; exact Nat.le_of_eq rfl) (by decide)
  refine go1 st1 ?_
  show Go p.tables e below T1 (mkF m 4 #[.val (.ref b1), .val (.ref k1), .val (.ref v1)] []) _
  refine go1 (fun _ => XS.aloadN X1.here hx rfl (hb hby d2_4) rfl rfl) ?_
  show Go p.tables e below T1 (mkF m 5 #[.val (.ref b1), .val (.ref k1), .val (.ref v1)] [(.ref b1)]) _
  refine go1 (fun _ => XS.aloadN X1.here hx rfl (hb hby d2_5) rfl rfl) ?_
  show Go p.tables e below T1 (mkF m 6 #[.val (.ref b1), .val (.ref k1), .val (.ref v1)] [(.ref k1), (.ref b1)]) _
  obtain ⟨T2, h2, X2, e2, W2, st2⟩ := putF X1 hx hZ hown (host := "") (Or.inl (hw _ (List.mem_of_getElem? (i := 17) rfl))) Via.refl e1 F_key_b1 E_b1 (Or.inl (hw _ (List.mem_of_getElem? (i := 18) rfl))) (hw _ (List.mem_of_getElem? (i := 2) rfl)) (ty := (.object "java/lang/Object")) (by decide) rfl rfl (g := (mkF m 6 #[.val (.ref b1), .val (.ref k1), .val (.ref v1)] [(.ref k1), (.ref b1)])) rfl rfl (hb hby d2_6)
  refine go1 st2 ?_
  have Fw2 := F_key_b1.same W2
  have N2 := Fr.snoc X2 N0 g_b1
  show Go p.tables e below T2 (mkF m 9 #[.val (.ref b1), .val (.ref k1), .val (.ref v1)] []) _
  refine go1 (fun _ => XS.aloadN X2.here hx rfl (hb hby d2_9) rfl rfl) ?_
  show Go p.tables e below T2 (mkF m 10 #[.val (.ref b1), .val (.ref k1), .val (.ref v1)] [(.ref b1)]) _
  refine go1 (fun _ => XS.aloadN X2.here hx rfl (hb hby d2_10) rfl rfl) ?_
  show Go p.tables e below T2 (mkF m 11 #[.val (.ref b1), .val (.ref k1), .val (.ref v1)] [(.ref v1), (.ref b1)]) _
  obtain ⟨T3, h3, X3, e3, W3, st3⟩ := putF X2 hx hZ hown (host := "") (Or.inl (hw _ (List.mem_of_getElem? (i := 19) rfl))) Via.refl e2 (F_value_b1.other W2 (Or.inr (slot_ne (Or.inl (hw _ (List.mem_of_getElem? (i := 20) rfl))) (Or.inl (hw _ (List.mem_of_getElem? (i := 18) rfl))) (by decide) (t := (.object "java/lang/Object")) (t' := (.object "java/lang/Object")) (by decide) (by decide)))) (E_b1.wr W2) (Or.inl (hw _ (List.mem_of_getElem? (i := 20) rfl))) (hw _ (List.mem_of_getElem? (i := 2) rfl)) (ty := (.object "java/lang/Object")) (by decide) rfl rfl (g := (mkF m 11 #[.val (.ref b1), .val (.ref k1), .val (.ref v1)] [(.ref v1), (.ref b1)])) rfl rfl (hb hby d2_11)
  refine go1 st3 ?_
  have Fw3 := (F_value_b1.other W2 (Or.inr (slot_ne (Or.inl (hw _ (List.mem_of_getElem? (i := 20) rfl))) (Or.inl (hw _ (List.mem_of_getElem? (i := 18) rfl))) (by decide) (t := (.object "java/lang/Object")) (t' := (.object "java/lang/Object")) (by decide) (by decide)))).same W3
  have N3 := Fr.snoc X3 N2 g_b1
  show Go p.tables e below T3 (mkF m 14 #[.val (.ref b1), .val (.ref k1), .val (.ref v1)] []) _
  refine go1 (fun _ => XS.aloadN X3.here hx rfl (hb hby d2_14) rfl rfl) ?_
  show Go p.tables e below T3 (mkF m 15 #[.val (.ref b1), .val (.ref k1), .val (.ref v1)] [(.ref b1)]) _
  refine go1 (fun _ => XS.iconst X3.here hx rfl (hb hby d2_15)) ?_
  show Go p.tables e below T3 (mkF m 16 #[.val (.ref b1), .val (.ref k1), .val (.ref v1)] [(.int (1 : Int32)), (.ref b1)]) _
  obtain ⟨T4, h4, X4, e4, W4, st4⟩ := putF X3 hx hZ hown (host := "") (Or.inl (hw _ (List.mem_of_getElem? (i := 21) rfl))) Via.refl e3 ((F_sizeAndColours_b1.other W2 (Or.inr (slot_ne (Or.inl (hw _ (List.mem_of_getElem? (i := 22) rfl))) (Or.inl (hw _ (List.mem_of_getElem? (i := 18) rfl))) (by decide) (t := .int) (t' := (.object "java/lang/Object")) (by decide) (by decide)))).other W3 (Or.inr (slot_ne (Or.inl (hw _ (List.mem_of_getElem? (i := 22) rfl))) (Or.inl (hw _ (List.mem_of_getElem? (i := 20) rfl))) (by decide) (t := .int) (t' := (.object "java/lang/Object")) (by decide) (by decide)))) ((E_b1.wr W2).wr W3) (Or.inl (hw _ (List.mem_of_getElem? (i := 22) rfl))) (hw _ (List.mem_of_getElem? (i := 2) rfl)) (ty := .int) (by decide) rfl rfl (g := (mkF m 16 #[.val (.ref b1), .val (.ref k1), .val (.ref v1)] [(.int (1 : Int32)), (.ref b1)])) rfl rfl (hb hby d2_16)
  refine go1 st4 ?_
  have Fw4 := ((F_sizeAndColours_b1.other W2 (Or.inr (slot_ne (Or.inl (hw _ (List.mem_of_getElem? (i := 22) rfl))) (Or.inl (hw _ (List.mem_of_getElem? (i := 18) rfl))) (by decide) (t := .int) (t' := (.object "java/lang/Object")) (by decide) (by decide)))).other W3 (Or.inr (slot_ne (Or.inl (hw _ (List.mem_of_getElem? (i := 22) rfl))) (Or.inl (hw _ (List.mem_of_getElem? (i := 20) rfl))) (by decide) (t := .int) (t' := (.object "java/lang/Object")) (by decide) (by decide)))).same W4
  have N4 := Fr.snoc X4 N3 g_b1
  show Go p.tables e below T4 (mkF m 19 #[.val (.ref b1), .val (.ref k1), .val (.ref v1)] []) _
  refine goR X4 (BodyLoose.notSynchronized Bd) (v := none) (fun _ => rfl) (Q2 Z b1 k1 v1 h0 n0) (fun fs hr => X4.returnOut hx Bd.returns (hb hby d2_19) hr) (by decide) (by decide) ?_
  show Q2 Z b1 k1 v1 h0 n0 _ T4.heap _
  rw [e4]
  exact ⟨rfl, N4, ((((Keep.refl h0 [b1]).wr W2 (Or.inl (List.mem_of_getElem? (i := 0) rfl))).wr W3 (Or.inl (List.mem_of_getElem? (i := 0) rfl))).wr W4 (Or.inl (List.mem_of_getElem? (i := 0) rfl))), (((E_b1.wr W2).wr W3).wr W4), ((Fw2.other W3 (Or.inr (slot_ne (Or.inl (hw _ (List.mem_of_getElem? (i := 18) rfl))) (Or.inl (hw _ (List.mem_of_getElem? (i := 20) rfl))) (by decide) (t := (.object "java/lang/Object")) (t' := (.object "java/lang/Object")) (by decide) (by decide)))).other W4 (Or.inr (slot_ne (Or.inl (hw _ (List.mem_of_getElem? (i := 18) rfl))) (Or.inl (hw _ (List.mem_of_getElem? (i := 22) rfl))) (by decide) (t := (.object "java/lang/Object")) (t' := .int) (by decide) (by decide)))), (Fw3.other W4 (Or.inr (slot_ne (Or.inl (hw _ (List.mem_of_getElem? (i := 20) rfl))) (Or.inl (hw _ (List.mem_of_getElem? (i := 22) rfl))) (by decide) (t := (.object "java/lang/Object")) (t' := .int) (by decide) (by decide)))), Fw4⟩
theorem d4_0 : decode prog_6_method_11_code 0 = .ok (.aload_n 0, 1) := by decide +kernel
theorem d4_1 : decode prog_6_method_11_code 1 = .ok (.iload_n 1, 1) := by decide +kernel
theorem d4_2 : decode prog_6_method_11_code 2 = .ok (.ifCond .eq 8, 3) := by decide +kernel
theorem d4_5 : decode prog_6_method_11_code 5 = .ok (.ldc 35, 2) := by decide +kernel
theorem d4_7 : decode prog_6_method_11_code 7 = .ok (.goto 4, 3) := by decide +kernel
theorem d4_10 : decode prog_6_method_11_code 10 = .ok (.iconst 0, 1) := by decide +kernel
theorem d4_11 : decode prog_6_method_11_code 11 = .ok (.iload_n 2, 1) := by decide +kernel
theorem d4_12 : decode prog_6_method_11_code 12 = .ok (.ifCond .eq 8, 3) := by decide +kernel
theorem d4_15 : decode prog_6_method_11_code 15 = .ok (.ldc 36, 2) := by decide +kernel
theorem d4_17 : decode prog_6_method_11_code 17 = .ok (.goto 4, 3) := by decide +kernel
theorem d4_20 : decode prog_6_method_11_code 20 = .ok (.iconst 0, 1) := by decide +kernel
theorem d4_21 : decode prog_6_method_11_code 21 = .ok (.ior, 1) := by decide +kernel
theorem d4_22 : decode prog_6_method_11_code 22 = .ok (.iload_n 3, 1) := by decide +kernel
theorem d4_23 : decode prog_6_method_11_code 23 = .ok (.ior, 1) := by decide +kernel
theorem d4_24 : decode prog_6_method_11_code 24 = .ok (.putfield 16, 3) := by decide +kernel
theorem d4_27 : decode prog_6_method_11_code 27 = .ok (.return_, 1) := by decide +kernel
theorem pn_4 : plainName "com/example/carmine/carmine/Node" = true := by first | (simp [plainName, overriddenIn]; done) | decide +kernel
theorem ef_4 (m : MethodId) (b1 : Addr) (p1 : Int32) (p2 : Int32) (p3 : Int32) : entryFrame m #[(.ref b1), (.int p1), (.int p2), (.int p3)] 4 = mkF m 0 #[.val (.ref b1), .val (.int p1), .val (.int p2), .val (.int p3)] [] := by first | (simp [entryFrame, mkF, argsToLocals, Value.category]; done) | rfl
def Q4 (Z : State) (b1 : Addr) (p1 : Int32) (p2 : Int32) (p3 : Int32) (f1 : Int32) (h0 : Heap) (n0 : Nat) (v : Option Value) (h : Heap) (L : List Loc) : Prop := v = none ∧ Fr n0 L ∧ Keep h0 h [b1] ∧ Exa Z h b1 "com/example/carmine/carmine/Node" ∧ Fld Z h b1 "com/example/carmine/carmine/Node" "sizeAndColours" "I" (.int (((if p1 = (0 : Int32) then (0 : Int32) else (-2147483648 : Int32)) ||| (if p2 = (0 : Int32) then (0 : Int32) else (1073741824 : Int32))) ||| p3))
set_option maxRecDepth 65536 in
set_option maxHeartbeats 40000000 in
theorem rm4 (l : Launch) (Z : State) (a0 : Array Value) (hw : ∀ d ∈ tables_1, d.before a0 Z = true) (ws : List Jvm.Cond) (b1 : Addr) (p1 : Int32) (p2 : Int32) (p3 : Int32) (f1 : Int32) (h0 : Heap) (n0 : Nat) (Z0 : n0 ≤ h0.size) (F_sizeAndColours_b1 : Fld Z h0 b1 "com/example/carmine/carmine/Node" "sizeAndColours" "I" (.int f1)) (E_b1 : Exa Z h0 b1 "com/example/carmine/carmine/Node") (g_b1 : n0 ≤ b1) :
    MetFree l (⟨"com/example/carmine/carmine/Node", "setColoursAndSize", "(ZZI)V"⟩ : MethodName) (head1 (Jvm.Cond.code (⟨"com/example/carmine/carmine/Node", "setColoursAndSize", "(ZZI)V"⟩ : MethodName) prog_6_method_11_code 4 none :: ws) ({ frames := 0, cells := 0, slots := 0, locals := 0 } : Room)) (fun a U => a = #[(.ref b1), (.int p1), (.int p2), (.int p3)] ∧ Z.Warmed39 U.vm ∧ U.heap = h0) (fun _ _ _ _ _ => True) (fun _ U o U' => ∃ v L, o = .returned v ∧ Q4 Z b1 p1 p2 p3 f1 h0 n0 v U'.heap L ∧ FrameEnd U o U' L ({ frames := 0, cells := 0, slots := 0, locals := 0 } : Room).cells ({ frames := 0, cells := 0, slots := 0, locals := 0 } : Room).slots) := by
  refine MetFree.of_bodySF (plainFor_of_name pn_4) hisR ?_
  intro p e s m args below meth c s₁ Bd hml0 hP hK
  obtain ⟨rfl, hZ, hh⟩ := hP
  have hx := Bd.exec
  have hby := Bd.bytes
  have hml : c.maxLocals = 4 := hml0
  have hown : s.vm.findClass "com/example/carmine/carmine/Node" = some m.cls := findClass_of_methodNamed Bd.named
  have hnm := (name_of_methodNamed Bd.named Bd.method).1
  have X0 : Stand p l e ({ frames := 0, cells := 0, slots := 0, locals := 0 } : Room) s m #[(.ref b1), (.int p1), (.int p2), (.int p3)] below meth c s₁ [] 0 0 := Stand.of_body Bd
  have e0 : s₁.heap = h0 := by rw [← hh, Bd.state]; rfl
  have N0 := Fr.nil n0
  refine goB (ef_4 m b1 p1 p2 p3) ?_
  show Go p.tables e below s₁ (mkF m 0 #[.val (.ref b1), .val (.int p1), .val (.int p2), .val (.int p3)] []) _
  refine go1 (fun _ => XS.aloadN X0.here hx rfl (hb hby d4_0) rfl rfl) ?_
  show Go p.tables e below s₁ (mkF m 1 #[.val (.ref b1), .val (.int p1), .val (.int p2), .val (.int p3)] [(.ref b1)]) _
  refine go1 (fun _ => XS.iloadN X0.here hx rfl (hb hby d4_1) rfl) ?_
  show Go p.tables e below s₁ (mkF m 2 #[.val (.ref b1), .val (.int p1), .val (.int p2), .val (.int p3)] [(.int p1), (.ref b1)]) _
  refine go1 (T' := s₁) (g' := (mkF m 11 #[.val (.ref b1), .val (.int p1), .val (.int p2), .val (.int p3)] [(.int (if p1 = (0 : Int32) then (0 : Int32) else (-2147483648 : Int32))), (.ref b1)])) (fun t k => ?_) ?_
  · by_cases hd1 : p1 = (0 : Int32)
    · skip
      rw [(if_pos hd1 : (if p1 = (0 : Int32) then (0 : Int32) else (-2147483648 : Int32)) = (0 : Int32))] at k
      show Steps p.tables e below (s₁.setTop (mkF m 2 #[.val (.ref b1), .val (.int p1), .val (.int p2), .val (.int p3)] [(.int p1), (.ref b1)])) _
      refine XS.ifYes X0.here hx rfl (pc0 := 2) (pc' := 10) rfl (hb hby d4_2) rfl ((if0 _ _).trans (teq hd1).1) (by decide) (by decide) ?_
      show Steps p.tables e below (s₁.setTop (mkF m 10 #[.val (.ref b1), .val (.int p1), .val (.int p2), .val (.int p3)] [(.ref b1)])) _
      refine XS.iconst X0.here hx rfl (hb hby d4_10) ?_
      show Steps p.tables e below (s₁.setTop (mkF m 11 #[.val (.ref b1), .val (.int p1), .val (.int p2), .val (.int p3)] [(.int (0 : Int32)), (.ref b1)])) _
      exact k
    · skip
      rw [(if_neg hd1 : (if p1 = (0 : Int32) then (0 : Int32) else (-2147483648 : Int32)) = (-2147483648 : Int32))] at k
      show Steps p.tables e below (s₁.setTop (mkF m 2 #[.val (.ref b1), .val (.int p1), .val (.int p2), .val (.int p3)] [(.int p1), (.ref b1)])) _
      refine XS.ifNo X0.here hx rfl (hb hby d4_2) rfl ((if0 _ _).trans (feq hd1).1) ?_
      show Steps p.tables e below (s₁.setTop (mkF m 5 #[.val (.ref b1), .val (.int p1), .val (.int p2), .val (.int p3)] [(.ref b1)])) _
      refine X0.ldcInt hx hown (mvT hZ (hw _ (List.mem_of_getElem? (i := 39) rfl))) (g := (mkF m 5 #[.val (.ref b1), .val (.int p1), .val (.int p2), .val (.int p3)] [(.ref b1)])) rfl (hb hby d4_5) _ ?_
      show Steps p.tables e below (s₁.setTop (mkF m 7 #[.val (.ref b1), .val (.int p1), .val (.int p2), .val (.int p3)] [(.int (-2147483648 : Int32)), (.ref b1)])) _
      refine XS.goto X0.here hx rfl (pc0 := 7) (pc' := 11) rfl (hb hby d4_7) (by decide) (by decide) ?_
      show Steps p.tables e below (s₁.setTop (mkF m 11 #[.val (.ref b1), .val (.int p1), .val (.int p2), .val (.int p3)] [(.int (-2147483648 : Int32)), (.ref b1)])) _
      exact k
  show Go p.tables e below s₁ (mkF m 11 #[.val (.ref b1), .val (.int p1), .val (.int p2), .val (.int p3)] [(.int (if p1 = (0 : Int32) then (0 : Int32) else (-2147483648 : Int32))), (.ref b1)]) _
  refine go1 (fun _ => XS.iloadN X0.here hx rfl (hb hby d4_11) rfl) ?_
  show Go p.tables e below s₁ (mkF m 12 #[.val (.ref b1), .val (.int p1), .val (.int p2), .val (.int p3)] [(.int p2), (.int (if p1 = (0 : Int32) then (0 : Int32) else (-2147483648 : Int32))), (.ref b1)]) _
  refine go1 (T' := s₁) (g' := (mkF m 21 #[.val (.ref b1), .val (.int p1), .val (.int p2), .val (.int p3)] [(.int (if p2 = (0 : Int32) then (0 : Int32) else (1073741824 : Int32))), (.int (if p1 = (0 : Int32) then (0 : Int32) else (-2147483648 : Int32))), (.ref b1)])) (fun t k => ?_) ?_
  · by_cases hd2 : p2 = (0 : Int32)
    · skip
      rw [(if_pos hd2 : (if p2 = (0 : Int32) then (0 : Int32) else (1073741824 : Int32)) = (0 : Int32))] at k
      show Steps p.tables e below (s₁.setTop (mkF m 12 #[.val (.ref b1), .val (.int p1), .val (.int p2), .val (.int p3)] [(.int p2), (.int (if p1 = (0 : Int32) then (0 : Int32) else (-2147483648 : Int32))), (.ref b1)])) _
      refine XS.ifYes X0.here hx rfl (pc0 := 12) (pc' := 20) rfl (hb hby d4_12) rfl ((if0 _ _).trans (teq hd2).1) (by decide) (by decide) ?_
      show Steps p.tables e below (s₁.setTop (mkF m 20 #[.val (.ref b1), .val (.int p1), .val (.int p2), .val (.int p3)] [(.int (if p1 = (0 : Int32) then (0 : Int32) else (-2147483648 : Int32))), (.ref b1)])) _
      refine XS.iconst X0.here hx rfl (hb hby d4_20) ?_
      show Steps p.tables e below (s₁.setTop (mkF m 21 #[.val (.ref b1), .val (.int p1), .val (.int p2), .val (.int p3)] [(.int (0 : Int32)), (.int (if p1 = (0 : Int32) then (0 : Int32) else (-2147483648 : Int32))), (.ref b1)])) _
      exact k
    · skip
      rw [(if_neg hd2 : (if p2 = (0 : Int32) then (0 : Int32) else (1073741824 : Int32)) = (1073741824 : Int32))] at k
      show Steps p.tables e below (s₁.setTop (mkF m 12 #[.val (.ref b1), .val (.int p1), .val (.int p2), .val (.int p3)] [(.int p2), (.int (if p1 = (0 : Int32) then (0 : Int32) else (-2147483648 : Int32))), (.ref b1)])) _
      refine XS.ifNo X0.here hx rfl (hb hby d4_12) rfl ((if0 _ _).trans (feq hd2).1) ?_
      show Steps p.tables e below (s₁.setTop (mkF m 15 #[.val (.ref b1), .val (.int p1), .val (.int p2), .val (.int p3)] [(.int (if p1 = (0 : Int32) then (0 : Int32) else (-2147483648 : Int32))), (.ref b1)])) _
      refine X0.ldcInt hx hown (mvT hZ (hw _ (List.mem_of_getElem? (i := 33) rfl))) (g := (mkF m 15 #[.val (.ref b1), .val (.int p1), .val (.int p2), .val (.int p3)] [(.int (if p1 = (0 : Int32) then (0 : Int32) else (-2147483648 : Int32))), (.ref b1)])) rfl (hb hby d4_15) _ ?_
      show Steps p.tables e below (s₁.setTop (mkF m 17 #[.val (.ref b1), .val (.int p1), .val (.int p2), .val (.int p3)] [(.int (1073741824 : Int32)), (.int (if p1 = (0 : Int32) then (0 : Int32) else (-2147483648 : Int32))), (.ref b1)])) _
      refine XS.goto X0.here hx rfl (pc0 := 17) (pc' := 21) rfl (hb hby d4_17) (by decide) (by decide) ?_
      show Steps p.tables e below (s₁.setTop (mkF m 21 #[.val (.ref b1), .val (.int p1), .val (.int p2), .val (.int p3)] [(.int (1073741824 : Int32)), (.int (if p1 = (0 : Int32) then (0 : Int32) else (-2147483648 : Int32))), (.ref b1)])) _
      exact k
  show Go p.tables e below s₁ (mkF m 21 #[.val (.ref b1), .val (.int p1), .val (.int p2), .val (.int p3)] [(.int (if p2 = (0 : Int32) then (0 : Int32) else (1073741824 : Int32))), (.int (if p1 = (0 : Int32) then (0 : Int32) else (-2147483648 : Int32))), (.ref b1)]) _
  refine go1 (fun _ => XS.ior X0.here hx rfl (hb hby d4_21) rfl) ?_
  show Go p.tables e below s₁ (mkF m 22 #[.val (.ref b1), .val (.int p1), .val (.int p2), .val (.int p3)] [(.int ((if p1 = (0 : Int32) then (0 : Int32) else (-2147483648 : Int32)) ||| (if p2 = (0 : Int32) then (0 : Int32) else (1073741824 : Int32)))), (.ref b1)]) _
  refine go1 (fun _ => XS.iloadN X0.here hx rfl (hb hby d4_22) rfl) ?_
  show Go p.tables e below s₁ (mkF m 23 #[.val (.ref b1), .val (.int p1), .val (.int p2), .val (.int p3)] [(.int p3), (.int ((if p1 = (0 : Int32) then (0 : Int32) else (-2147483648 : Int32)) ||| (if p2 = (0 : Int32) then (0 : Int32) else (1073741824 : Int32)))), (.ref b1)]) _
  refine go1 (fun _ => XS.ior X0.here hx rfl (hb hby d4_23) rfl) ?_
  show Go p.tables e below s₁ (mkF m 24 #[.val (.ref b1), .val (.int p1), .val (.int p2), .val (.int p3)] [(.int (((if p1 = (0 : Int32) then (0 : Int32) else (-2147483648 : Int32)) ||| (if p2 = (0 : Int32) then (0 : Int32) else (1073741824 : Int32))) ||| p3)), (.ref b1)]) _
  obtain ⟨T3, h3, X3, e3, W3, st3⟩ := putF X0 hx hZ hown (host := "") (Or.inl (hw _ (List.mem_of_getElem? (i := 21) rfl))) Via.refl e0 F_sizeAndColours_b1 E_b1 (Or.inl (hw _ (List.mem_of_getElem? (i := 22) rfl))) (hw _ (List.mem_of_getElem? (i := 2) rfl)) (ty := .int) (by decide) rfl rfl (g := (mkF m 24 #[.val (.ref b1), .val (.int p1), .val (.int p2), .val (.int p3)] [(.int (((if p1 = (0 : Int32) then (0 : Int32) else (-2147483648 : Int32)) ||| (if p2 = (0 : Int32) then (0 : Int32) else (1073741824 : Int32))) ||| p3)), (.ref b1)])) rfl rfl (hb hby d4_24)
  refine go1 st3 ?_
  have Fw3 := F_sizeAndColours_b1.same W3
  have N3 := Fr.snoc X3 N0 g_b1
  show Go p.tables e below T3 (mkF m 27 #[.val (.ref b1), .val (.int p1), .val (.int p2), .val (.int p3)] []) _
  refine goR X3 (BodyLoose.notSynchronized Bd) (v := none) (fun _ => rfl) (Q4 Z b1 p1 p2 p3 f1 h0 n0) (fun fs hr => X3.returnOut hx Bd.returns (hb hby d4_27) hr) (by decide) (by decide) ?_
  show Q4 Z b1 p1 p2 p3 f1 h0 n0 _ T3.heap _
  rw [e3]
  exact ⟨rfl, N3, ((Keep.refl h0 [b1]).wr W3 (Or.inl (List.mem_of_getElem? (i := 0) rfl))), (E_b1.wr W3), Fw3⟩
def own_red (f1 p1 p2 : Int32) : Int32 := if p2 = (0 : Int32) then (f1 &&& ((if p1 = (0 : Int32) then (1073741824 : Int32) else (-2147483648 : Int32)) ^^^ (-1 : Int32))) else (f1 ||| (if p1 = (0 : Int32) then (1073741824 : Int32) else (-2147483648 : Int32)))
theorem d5_0 : decode prog_6_method_7_code 0 = .ok (.iload_n 1, 1) := by decide +kernel
theorem d5_1 : decode prog_6_method_7_code 1 = .ok (.ifCond .eq 8, 3) := by decide +kernel
theorem d5_4 : decode prog_6_method_7_code 4 = .ok (.ldc 35, 2) := by decide +kernel
theorem d5_6 : decode prog_6_method_7_code 6 = .ok (.goto 5, 3) := by decide +kernel
theorem d5_9 : decode prog_6_method_7_code 9 = .ok (.ldc 36, 2) := by decide +kernel
theorem d5_11 : decode prog_6_method_7_code 11 = .ok (.istore_n 3, 1) := by decide +kernel
theorem d5_12 : decode prog_6_method_7_code 12 = .ok (.aload_n 0, 1) := by decide +kernel
theorem d5_13 : decode prog_6_method_7_code 13 = .ok (.iload_n 2, 1) := by decide +kernel
theorem d5_14 : decode prog_6_method_7_code 14 = .ok (.ifCond .eq 12, 3) := by decide +kernel
theorem d5_17 : decode prog_6_method_7_code 17 = .ok (.aload_n 0, 1) := by decide +kernel
theorem d5_18 : decode prog_6_method_7_code 18 = .ok (.getfield 16, 3) := by decide +kernel
theorem d5_21 : decode prog_6_method_7_code 21 = .ok (.iload_n 3, 1) := by decide +kernel
theorem d5_22 : decode prog_6_method_7_code 22 = .ok (.ior, 1) := by decide +kernel
theorem d5_23 : decode prog_6_method_7_code 23 = .ok (.goto 11, 3) := by decide +kernel
theorem d5_26 : decode prog_6_method_7_code 26 = .ok (.aload_n 0, 1) := by decide +kernel
theorem d5_27 : decode prog_6_method_7_code 27 = .ok (.getfield 16, 3) := by decide +kernel
theorem d5_30 : decode prog_6_method_7_code 30 = .ok (.iload_n 3, 1) := by decide +kernel
theorem d5_31 : decode prog_6_method_7_code 31 = .ok (.iconst (-1), 1) := by decide +kernel
theorem d5_32 : decode prog_6_method_7_code 32 = .ok (.ixor, 1) := by decide +kernel
theorem d5_33 : decode prog_6_method_7_code 33 = .ok (.iand, 1) := by decide +kernel
theorem d5_34 : decode prog_6_method_7_code 34 = .ok (.putfield 16, 3) := by decide +kernel
theorem d5_37 : decode prog_6_method_7_code 37 = .ok (.return_, 1) := by decide +kernel
theorem pn_5 : plainName "com/example/carmine/carmine/Node" = true := by first | (simp [plainName, overriddenIn]; done) | decide +kernel
theorem ef_5 (m : MethodId) (b1 : Addr) (p1 : Int32) (p2 : Int32) : entryFrame m #[(.ref b1), (.int p1), (.int p2)] 4 = mkF m 0 #[.val (.ref b1), .val (.int p1), .val (.int p2), .unset] [] := by first | (simp [entryFrame, mkF, argsToLocals, Value.category]; done) | rfl
def Q5 (Z : State) (b1 : Addr) (p1 : Int32) (p2 : Int32) (f1 : Int32) (h0 : Heap) (n0 : Nat) (v : Option Value) (h : Heap) (L : List Loc) : Prop := v = none ∧ Fr n0 L ∧ Keep h0 h [b1] ∧ Exa Z h b1 "com/example/carmine/carmine/Node" ∧ Fld Z h b1 "com/example/carmine/carmine/Node" "sizeAndColours" "I" (.int (own_red f1 p1 p2))
set_option maxRecDepth 65536 in
set_option maxHeartbeats 40000000 in
theorem rm5 (l : Launch) (Z : State) (a0 : Array Value) (hw : ∀ d ∈ tables_1, d.before a0 Z = true) (ws : List Jvm.Cond) (b1 : Addr) (p1 : Int32) (p2 : Int32) (f1 : Int32) (h0 : Heap) (n0 : Nat) (Z0 : n0 ≤ h0.size) (F_sizeAndColours_b1 : Fld Z h0 b1 "com/example/carmine/carmine/Node" "sizeAndColours" "I" (.int f1)) (E_b1 : Exa Z h0 b1 "com/example/carmine/carmine/Node") (g_b1 : n0 ≤ b1) :
    MetFree l (⟨"com/example/carmine/carmine/Node", "setRed", "(ZZ)V"⟩ : MethodName) (head1 (Jvm.Cond.code (⟨"com/example/carmine/carmine/Node", "setRed", "(ZZ)V"⟩ : MethodName) prog_6_method_7_code 4 none :: ws) ({ frames := 0, cells := 0, slots := 0, locals := 0 } : Room)) (fun a U => a = #[(.ref b1), (.int p1), (.int p2)] ∧ Z.Warmed39 U.vm ∧ U.heap = h0) (fun _ _ _ _ _ => True) (fun _ U o U' => ∃ v L, o = .returned v ∧ Q5 Z b1 p1 p2 f1 h0 n0 v U'.heap L ∧ FrameEnd U o U' L ({ frames := 0, cells := 0, slots := 0, locals := 0 } : Room).cells ({ frames := 0, cells := 0, slots := 0, locals := 0 } : Room).slots) := by
  refine MetFree.of_bodySF (plainFor_of_name pn_5) hisR ?_
  intro p e s m args below meth c s₁ Bd hml0 hP hK
  obtain ⟨rfl, hZ, hh⟩ := hP
  have hx := Bd.exec
  have hby := Bd.bytes
  have hml : c.maxLocals = 4 := hml0
  have hown : s.vm.findClass "com/example/carmine/carmine/Node" = some m.cls := findClass_of_methodNamed Bd.named
  have hnm := (name_of_methodNamed Bd.named Bd.method).1
  have X0 : Stand p l e ({ frames := 0, cells := 0, slots := 0, locals := 0 } : Room) s m #[(.ref b1), (.int p1), (.int p2)] below meth c s₁ [] 0 0 := Stand.of_body Bd
  have e0 : s₁.heap = h0 := by rw [← hh, Bd.state]; rfl
  have N0 := Fr.nil n0
  refine goB (ef_5 m b1 p1 p2) ?_
  show Go p.tables e below s₁ (mkF m 0 #[.val (.ref b1), .val (.int p1), .val (.int p2), .unset] []) _
  refine go1 (fun _ => XS.iloadN X0.here hx rfl (hb hby d5_0) rfl) ?_
  show Go p.tables e below s₁ (mkF m 1 #[.val (.ref b1), .val (.int p1), .val (.int p2), .unset] [(.int p1)]) _
  refine go1 (T' := s₁) (g' := (mkF m 11 #[.val (.ref b1), .val (.int p1), .val (.int p2), .unset] [(.int (if p1 = (0 : Int32) then (1073741824 : Int32) else (-2147483648 : Int32)))])) (fun t k => ?_) ?_
  · by_cases hd1 : p1 = (0 : Int32)
    · skip
      rw [(if_pos hd1 : (if p1 = (0 : Int32) then (1073741824 : Int32) else (-2147483648 : Int32)) = (1073741824 : Int32))] at k
      show Steps p.tables e below (s₁.setTop (mkF m 1 #[.val (.ref b1), .val (.int p1), .val (.int p2), .unset] [(.int p1)])) _
      refine XS.ifYes X0.here hx rfl (pc0 := 1) (pc' := 9) rfl (hb hby d5_1) rfl ((if0 _ _).trans (teq hd1).1) (by decide) (by decide) ?_
      show Steps p.tables e below (s₁.setTop (mkF m 9 #[.val (.ref b1), .val (.int p1), .val (.int p2), .unset] [])) _
      refine X0.ldcInt hx hown (mvT hZ (hw _ (List.mem_of_getElem? (i := 33) rfl))) (g := (mkF m 9 #[.val (.ref b1), .val (.int p1), .val (.int p2), .unset] [])) rfl (hb hby d5_9) _ ?_
      show Steps p.tables e below (s₁.setTop (mkF m 11 #[.val (.ref b1), .val (.int p1), .val (.int p2), .unset] [(.int (1073741824 : Int32))])) _
      exact k
    · skip
      rw [(if_neg hd1 : (if p1 = (0 : Int32) then (1073741824 : Int32) else (-2147483648 : Int32)) = (-2147483648 : Int32))] at k
      show Steps p.tables e below (s₁.setTop (mkF m 1 #[.val (.ref b1), .val (.int p1), .val (.int p2), .unset] [(.int p1)])) _
      refine XS.ifNo X0.here hx rfl (hb hby d5_1) rfl ((if0 _ _).trans (feq hd1).1) ?_
      show Steps p.tables e below (s₁.setTop (mkF m 4 #[.val (.ref b1), .val (.int p1), .val (.int p2), .unset] [])) _
      refine X0.ldcInt hx hown (mvT hZ (hw _ (List.mem_of_getElem? (i := 39) rfl))) (g := (mkF m 4 #[.val (.ref b1), .val (.int p1), .val (.int p2), .unset] [])) rfl (hb hby d5_4) _ ?_
      show Steps p.tables e below (s₁.setTop (mkF m 6 #[.val (.ref b1), .val (.int p1), .val (.int p2), .unset] [(.int (-2147483648 : Int32))])) _
      refine XS.goto X0.here hx rfl (pc0 := 6) (pc' := 11) rfl (hb hby d5_6) (by decide) (by decide) ?_
      show Steps p.tables e below (s₁.setTop (mkF m 11 #[.val (.ref b1), .val (.int p1), .val (.int p2), .unset] [(.int (-2147483648 : Int32))])) _
      exact k
  show Go p.tables e below s₁ (mkF m 11 #[.val (.ref b1), .val (.int p1), .val (.int p2), .unset] [(.int (if p1 = (0 : Int32) then (1073741824 : Int32) else (-2147483648 : Int32)))]) _
  refine go1 (fun _ => XS.istoreN X0.here hx rfl (hb hby d5_11) rfl (l' := #[.val (.ref b1), .val (.int p1), .val (.int p2), .val (.int (if p1 = (0 : Int32) then (1073741824 : Int32) else (-2147483648 : Int32)))]) rfl) ?_
  show Go p.tables e below s₁ (mkF m 12 #[.val (.ref b1), .val (.int p1), .val (.int p2), .val (.int (if p1 = (0 : Int32) then (1073741824 : Int32) else (-2147483648 : Int32)))] []) _
  refine go1 (fun _ => XS.aloadN X0.here hx rfl (hb hby d5_12) rfl rfl) ?_
  show Go p.tables e below s₁ (mkF m 13 #[.val (.ref b1), .val (.int p1), .val (.int p2), .val (.int (if p1 = (0 : Int32) then (1073741824 : Int32) else (-2147483648 : Int32)))] [(.ref b1)]) _
  refine go1 (fun _ => XS.iloadN X0.here hx rfl (hb hby d5_13) rfl) ?_
  show Go p.tables e below s₁ (mkF m 14 #[.val (.ref b1), .val (.int p1), .val (.int p2), .val (.int (if p1 = (0 : Int32) then (1073741824 : Int32) else (-2147483648 : Int32)))] [(.int p2), (.ref b1)]) _
  by_cases hc2 : p2 = (0 : Int32)
  · skip
    refine go1 (fun _ => XS.ifYes X0.here hx rfl (pc0 := 14) (pc' := 26) rfl (hb hby d5_14) rfl ((if0 _ _).trans (teq hc2).1) (by decide) (by decide)) ?_
    show Go p.tables e below s₁ (mkF m 26 #[.val (.ref b1), .val (.int p1), .val (.int p2), .val (.int (if p1 = (0 : Int32) then (1073741824 : Int32) else (-2147483648 : Int32)))] [(.ref b1)]) _
    refine go1 (fun _ => XS.aloadN X0.here hx rfl (hb hby d5_26) rfl rfl) ?_
    show Go p.tables e below s₁ (mkF m 27 #[.val (.ref b1), .val (.int p1), .val (.int p2), .val (.int (if p1 = (0 : Int32) then (1073741824 : Int32) else (-2147483648 : Int32)))] [(.ref b1), (.ref b1)]) _
    obtain ⟨T3, X3, e3, st3⟩ := getF X0 hx hZ hown (host := "") (Or.inl (hw _ (List.mem_of_getElem? (i := 21) rfl))) Via.refl e0 F_sizeAndColours_b1 (g := (mkF m 27 #[.val (.ref b1), .val (.int p1), .val (.int p2), .val (.int (if p1 = (0 : Int32) then (1073741824 : Int32) else (-2147483648 : Int32)))] [(.ref b1), (.ref b1)])) rfl rfl (hb hby d5_27)
    refine go1 st3 ?_
    show Go p.tables e below T3 (mkF m 30 #[.val (.ref b1), .val (.int p1), .val (.int p2), .val (.int (if p1 = (0 : Int32) then (1073741824 : Int32) else (-2147483648 : Int32)))] [(.int f1), (.ref b1)]) _
    refine go1 (fun _ => XS.iloadN X3.here hx rfl (hb hby d5_30) rfl) ?_
    show Go p.tables e below T3 (mkF m 31 #[.val (.ref b1), .val (.int p1), .val (.int p2), .val (.int (if p1 = (0 : Int32) then (1073741824 : Int32) else (-2147483648 : Int32)))] [(.int (if p1 = (0 : Int32) then (1073741824 : Int32) else (-2147483648 : Int32))), (.int f1), (.ref b1)]) _
    refine go1 (fun _ => XS.iconst X3.here hx rfl (hb hby d5_31)) ?_
    show Go p.tables e below T3 (mkF m 32 #[.val (.ref b1), .val (.int p1), .val (.int p2), .val (.int (if p1 = (0 : Int32) then (1073741824 : Int32) else (-2147483648 : Int32)))] [(.int (-1 : Int32)), (.int (if p1 = (0 : Int32) then (1073741824 : Int32) else (-2147483648 : Int32))), (.int f1), (.ref b1)]) _
    refine go1 (fun _ => XS.ixor X3.here hx rfl (hb hby d5_32) rfl) ?_
    show Go p.tables e below T3 (mkF m 33 #[.val (.ref b1), .val (.int p1), .val (.int p2), .val (.int (if p1 = (0 : Int32) then (1073741824 : Int32) else (-2147483648 : Int32)))] [(.int ((if p1 = (0 : Int32) then (1073741824 : Int32) else (-2147483648 : Int32)) ^^^ (-1 : Int32))), (.int f1), (.ref b1)]) _
    refine go1 (fun _ => XS.iand X3.here hx rfl (hb hby d5_33) rfl) ?_
    show Go p.tables e below T3 (mkF m 34 #[.val (.ref b1), .val (.int p1), .val (.int p2), .val (.int (if p1 = (0 : Int32) then (1073741824 : Int32) else (-2147483648 : Int32)))] [(.int (f1 &&& ((if p1 = (0 : Int32) then (1073741824 : Int32) else (-2147483648 : Int32)) ^^^ (-1 : Int32)))), (.ref b1)]) _
    obtain ⟨T4, h4, X4, e4, W4, st4⟩ := putF X3 hx hZ hown (host := "") (Or.inl (hw _ (List.mem_of_getElem? (i := 21) rfl))) Via.refl e3 F_sizeAndColours_b1 E_b1 (Or.inl (hw _ (List.mem_of_getElem? (i := 22) rfl))) (hw _ (List.mem_of_getElem? (i := 2) rfl)) (ty := .int) (by decide) rfl rfl (g := (mkF m 34 #[.val (.ref b1), .val (.int p1), .val (.int p2), .val (.int (if p1 = (0 : Int32) then (1073741824 : Int32) else (-2147483648 : Int32)))] [(.int (f1 &&& ((if p1 = (0 : Int32) then (1073741824 : Int32) else (-2147483648 : Int32)) ^^^ (-1 : Int32)))), (.ref b1)])) rfl rfl (hb hby d5_34)
    refine go1 st4 ?_
    have Fw4 := F_sizeAndColours_b1.same W4
    have N4 := Fr.snoc X4 N0 g_b1
    show Go p.tables e below T4 (mkF m 37 #[.val (.ref b1), .val (.int p1), .val (.int p2), .val (.int (if p1 = (0 : Int32) then (1073741824 : Int32) else (-2147483648 : Int32)))] []) _
    refine goR X4 (BodyLoose.notSynchronized Bd) (v := none) (fun _ => rfl) (Q5 Z b1 p1 p2 f1 h0 n0) (fun fs hr => X4.returnOut hx Bd.returns (hb hby d5_37) hr) (by decide) (by decide) ?_
    show Q5 Z b1 p1 p2 f1 h0 n0 _ T4.heap _
    rw [e4]
    exact ⟨rfl, N4, ((Keep.refl h0 [b1]).wr W4 (Or.inl (List.mem_of_getElem? (i := 0) rfl))), (E_b1.wr W4), (by rw [own_red, if_pos hc2]; exact Fw4)⟩
  · skip
    refine go1 (fun _ => XS.ifNo X0.here hx rfl (hb hby d5_14) rfl ((if0 _ _).trans (feq hc2).1)) ?_
    show Go p.tables e below s₁ (mkF m 17 #[.val (.ref b1), .val (.int p1), .val (.int p2), .val (.int (if p1 = (0 : Int32) then (1073741824 : Int32) else (-2147483648 : Int32)))] [(.ref b1)]) _
    refine go1 (fun _ => XS.aloadN X0.here hx rfl (hb hby d5_17) rfl rfl) ?_
    show Go p.tables e below s₁ (mkF m 18 #[.val (.ref b1), .val (.int p1), .val (.int p2), .val (.int (if p1 = (0 : Int32) then (1073741824 : Int32) else (-2147483648 : Int32)))] [(.ref b1), (.ref b1)]) _
    obtain ⟨T5, X5, e5, st5⟩ := getF X0 hx hZ hown (host := "") (Or.inl (hw _ (List.mem_of_getElem? (i := 21) rfl))) Via.refl e0 F_sizeAndColours_b1 (g := (mkF m 18 #[.val (.ref b1), .val (.int p1), .val (.int p2), .val (.int (if p1 = (0 : Int32) then (1073741824 : Int32) else (-2147483648 : Int32)))] [(.ref b1), (.ref b1)])) rfl rfl (hb hby d5_18)
    refine go1 st5 ?_
    show Go p.tables e below T5 (mkF m 21 #[.val (.ref b1), .val (.int p1), .val (.int p2), .val (.int (if p1 = (0 : Int32) then (1073741824 : Int32) else (-2147483648 : Int32)))] [(.int f1), (.ref b1)]) _
    refine go1 (fun _ => XS.iloadN X5.here hx rfl (hb hby d5_21) rfl) ?_
    show Go p.tables e below T5 (mkF m 22 #[.val (.ref b1), .val (.int p1), .val (.int p2), .val (.int (if p1 = (0 : Int32) then (1073741824 : Int32) else (-2147483648 : Int32)))] [(.int (if p1 = (0 : Int32) then (1073741824 : Int32) else (-2147483648 : Int32))), (.int f1), (.ref b1)]) _
    refine go1 (fun _ => XS.ior X5.here hx rfl (hb hby d5_22) rfl) ?_
    show Go p.tables e below T5 (mkF m 23 #[.val (.ref b1), .val (.int p1), .val (.int p2), .val (.int (if p1 = (0 : Int32) then (1073741824 : Int32) else (-2147483648 : Int32)))] [(.int (f1 ||| (if p1 = (0 : Int32) then (1073741824 : Int32) else (-2147483648 : Int32)))), (.ref b1)]) _
    refine go1 (fun _ => XS.goto X5.here hx rfl (pc0 := 23) (pc' := 34) rfl (hb hby d5_23) (by decide) (by decide)) ?_
    show Go p.tables e below T5 (mkF m 34 #[.val (.ref b1), .val (.int p1), .val (.int p2), .val (.int (if p1 = (0 : Int32) then (1073741824 : Int32) else (-2147483648 : Int32)))] [(.int (f1 ||| (if p1 = (0 : Int32) then (1073741824 : Int32) else (-2147483648 : Int32)))), (.ref b1)]) _
    obtain ⟨T6, h6, X6, e6, W6, st6⟩ := putF X5 hx hZ hown (host := "") (Or.inl (hw _ (List.mem_of_getElem? (i := 21) rfl))) Via.refl e5 F_sizeAndColours_b1 E_b1 (Or.inl (hw _ (List.mem_of_getElem? (i := 22) rfl))) (hw _ (List.mem_of_getElem? (i := 2) rfl)) (ty := .int) (by decide) rfl rfl (g := (mkF m 34 #[.val (.ref b1), .val (.int p1), .val (.int p2), .val (.int (if p1 = (0 : Int32) then (1073741824 : Int32) else (-2147483648 : Int32)))] [(.int (f1 ||| (if p1 = (0 : Int32) then (1073741824 : Int32) else (-2147483648 : Int32)))), (.ref b1)])) rfl rfl (hb hby d5_34)
    refine go1 st6 ?_
    have Fw6 := F_sizeAndColours_b1.same W6
    have N6 := Fr.snoc X6 N0 g_b1
    show Go p.tables e below T6 (mkF m 37 #[.val (.ref b1), .val (.int p1), .val (.int p2), .val (.int (if p1 = (0 : Int32) then (1073741824 : Int32) else (-2147483648 : Int32)))] []) _
    refine goR X6 (BodyLoose.notSynchronized Bd) (v := none) (fun _ => rfl) (Q5 Z b1 p1 p2 f1 h0 n0) (fun fs hr => X6.returnOut hx Bd.returns (hb hby d5_37) hr) (by decide) (by decide) ?_
    show Q5 Z b1 p1 p2 f1 h0 n0 _ T6.heap _
    rw [e6]
    exact ⟨rfl, N6, ((Keep.refl h0 [b1]).wr W6 (Or.inl (List.mem_of_getElem? (i := 0) rfl))), (E_b1.wr W6), (by rw [own_red, if_neg hc2]; exact Fw6)⟩
theorem d6_0 : decode prog_6_method_6_code 0 = .ok (.aload_n 0, 1) := by decide +kernel
theorem d6_1 : decode prog_6_method_6_code 1 = .ok (.getfield 16, 3) := by decide +kernel
theorem d6_4 : decode prog_6_method_6_code 4 = .ok (.iload_n 1, 1) := by decide +kernel
theorem d6_5 : decode prog_6_method_6_code 5 = .ok (.ifCond .eq 8, 3) := by decide +kernel
theorem d6_8 : decode prog_6_method_6_code 8 = .ok (.ldc 35, 2) := by decide +kernel
theorem d6_10 : decode prog_6_method_6_code 10 = .ok (.goto 5, 3) := by decide +kernel
theorem d6_13 : decode prog_6_method_6_code 13 = .ok (.ldc 36, 2) := by decide +kernel
theorem d6_15 : decode prog_6_method_6_code 15 = .ok (.iand, 1) := by decide +kernel
theorem d6_16 : decode prog_6_method_6_code 16 = .ok (.ifCond .eq 7, 3) := by decide +kernel
theorem d6_19 : decode prog_6_method_6_code 19 = .ok (.iconst 1, 1) := by decide +kernel
theorem d6_20 : decode prog_6_method_6_code 20 = .ok (.goto 4, 3) := by decide +kernel
theorem d6_23 : decode prog_6_method_6_code 23 = .ok (.iconst 0, 1) := by decide +kernel
theorem d6_24 : decode prog_6_method_6_code 24 = .ok (.ireturn, 1) := by decide +kernel
theorem pn_6 : plainName "com/example/carmine/carmine/Node" = true := by first | (simp [plainName, overriddenIn]; done) | decide +kernel
theorem ef_6 (m : MethodId) (b1 : Addr) (p1 : Int32) : entryFrame m #[(.ref b1), (.int p1)] 2 = mkF m 0 #[.val (.ref b1), .val (.int p1)] [] := by first | (simp [entryFrame, mkF, argsToLocals, Value.category]; done) | rfl
def own_6 (p1 : Int32) (f1 : Int32) : Int32 :=
  if (f1 &&& (if p1 = (0 : Int32) then (1073741824 : Int32) else (-2147483648 : Int32))) = (0 : Int32) then
    (0 : Int32)
  else
    (1 : Int32)
def Q6 (Z : State) (b1 : Addr) (p1 : Int32) (f1 : Int32) (h0 : Heap) (n0 : Nat) (v : Option Value) (h : Heap) (L : List Loc) : Prop := v = some (.int (own_6 p1 f1)) ∧ Fr n0 L ∧ h = h0
set_option maxRecDepth 65536 in
set_option maxHeartbeats 40000000 in
theorem rm6 (l : Launch) (Z : State) (a0 : Array Value) (hw : ∀ d ∈ tables_1, d.before a0 Z = true) (ws : List Jvm.Cond) (b1 : Addr) (p1 : Int32) (f1 : Int32) (h0 : Heap) (n0 : Nat) (Z0 : n0 ≤ h0.size) (F_sizeAndColours_b1 : Fld Z h0 b1 "com/example/carmine/carmine/Node" "sizeAndColours" "I" (.int f1)) :
    MetFree l (⟨"com/example/carmine/carmine/Node", "isRed", "(Z)Z"⟩ : MethodName) (head1 (Jvm.Cond.code (⟨"com/example/carmine/carmine/Node", "isRed", "(Z)Z"⟩ : MethodName) prog_6_method_6_code 2 (some .boolean) :: ws) ({ frames := 0, cells := 0, slots := 0, locals := 0 } : Room)) (fun a U => a = #[(.ref b1), (.int p1)] ∧ Z.Warmed39 U.vm ∧ U.heap = h0) (fun _ _ _ _ _ => True) (fun _ U o U' => ∃ v L, o = .returned v ∧ Q6 Z b1 p1 f1 h0 n0 v U'.heap L ∧ FrameEnd U o U' L ({ frames := 0, cells := 0, slots := 0, locals := 0 } : Room).cells ({ frames := 0, cells := 0, slots := 0, locals := 0 } : Room).slots) := by
  refine MetFree.of_bodySF (plainFor_of_name pn_6) hisR ?_
  intro p e s m args below meth c s₁ Bd hml0 hP hK
  obtain ⟨rfl, hZ, hh⟩ := hP
  have hx := Bd.exec
  have hby := Bd.bytes
  have hml : c.maxLocals = 2 := hml0
  have hown : s.vm.findClass "com/example/carmine/carmine/Node" = some m.cls := findClass_of_methodNamed Bd.named
  have hnm := (name_of_methodNamed Bd.named Bd.method).1
  have X0 : Stand p l e ({ frames := 0, cells := 0, slots := 0, locals := 0 } : Room) s m #[(.ref b1), (.int p1)] below meth c s₁ [] 0 0 := Stand.of_body Bd
  have e0 : s₁.heap = h0 := by rw [← hh, Bd.state]; rfl
  have N0 := Fr.nil n0
  refine goB (ef_6 m b1 p1) ?_
  show Go p.tables e below s₁ (mkF m 0 #[.val (.ref b1), .val (.int p1)] []) _
  refine go1 (fun _ => XS.aloadN X0.here hx rfl (hb hby d6_0) rfl rfl) ?_
  show Go p.tables e below s₁ (mkF m 1 #[.val (.ref b1), .val (.int p1)] [(.ref b1)]) _
  obtain ⟨T1, X1, e1, st1⟩ := getF X0 hx hZ hown (host := "") (Or.inl (hw _ (List.mem_of_getElem? (i := 21) rfl))) Via.refl e0 F_sizeAndColours_b1 (g := (mkF m 1 #[.val (.ref b1), .val (.int p1)] [(.ref b1)])) rfl rfl (hb hby d6_1)
  refine go1 st1 ?_
  show Go p.tables e below T1 (mkF m 4 #[.val (.ref b1), .val (.int p1)] [(.int f1)]) _
  refine go1 (fun _ => XS.iloadN X1.here hx rfl (hb hby d6_4) rfl) ?_
  show Go p.tables e below T1 (mkF m 5 #[.val (.ref b1), .val (.int p1)] [(.int p1), (.int f1)]) _
  refine go1 (T' := T1) (g' := (mkF m 15 #[.val (.ref b1), .val (.int p1)] [(.int (if p1 = (0 : Int32) then (1073741824 : Int32) else (-2147483648 : Int32))), (.int f1)])) (fun t k => ?_) ?_
  · by_cases hd2 : p1 = (0 : Int32)
    · skip
      rw [(if_pos hd2 : (if p1 = (0 : Int32) then (1073741824 : Int32) else (-2147483648 : Int32)) = (1073741824 : Int32))] at k
      show Steps p.tables e below (T1.setTop (mkF m 5 #[.val (.ref b1), .val (.int p1)] [(.int p1), (.int f1)])) _
      refine XS.ifYes X1.here hx rfl (pc0 := 5) (pc' := 13) rfl (hb hby d6_5) rfl ((if0 _ _).trans (teq hd2).1) (by decide) (by decide) ?_
      show Steps p.tables e below (T1.setTop (mkF m 13 #[.val (.ref b1), .val (.int p1)] [(.int f1)])) _
      refine X1.ldcInt hx hown (mvT hZ (hw _ (List.mem_of_getElem? (i := 33) rfl))) (g := (mkF m 13 #[.val (.ref b1), .val (.int p1)] [(.int f1)])) rfl (hb hby d6_13) _ ?_
      show Steps p.tables e below (T1.setTop (mkF m 15 #[.val (.ref b1), .val (.int p1)] [(.int (1073741824 : Int32)), (.int f1)])) _
      exact k
    · skip
      rw [(if_neg hd2 : (if p1 = (0 : Int32) then (1073741824 : Int32) else (-2147483648 : Int32)) = (-2147483648 : Int32))] at k
      show Steps p.tables e below (T1.setTop (mkF m 5 #[.val (.ref b1), .val (.int p1)] [(.int p1), (.int f1)])) _
      refine XS.ifNo X1.here hx rfl (hb hby d6_5) rfl ((if0 _ _).trans (feq hd2).1) ?_
      show Steps p.tables e below (T1.setTop (mkF m 8 #[.val (.ref b1), .val (.int p1)] [(.int f1)])) _
      refine X1.ldcInt hx hown (mvT hZ (hw _ (List.mem_of_getElem? (i := 39) rfl))) (g := (mkF m 8 #[.val (.ref b1), .val (.int p1)] [(.int f1)])) rfl (hb hby d6_8) _ ?_
      show Steps p.tables e below (T1.setTop (mkF m 10 #[.val (.ref b1), .val (.int p1)] [(.int (-2147483648 : Int32)), (.int f1)])) _
      refine XS.goto X1.here hx rfl (pc0 := 10) (pc' := 15) rfl (hb hby d6_10) (by decide) (by decide) ?_
      show Steps p.tables e below (T1.setTop (mkF m 15 #[.val (.ref b1), .val (.int p1)] [(.int (-2147483648 : Int32)), (.int f1)])) _
      exact k
  show Go p.tables e below T1 (mkF m 15 #[.val (.ref b1), .val (.int p1)] [(.int (if p1 = (0 : Int32) then (1073741824 : Int32) else (-2147483648 : Int32))), (.int f1)]) _
  refine go1 (fun _ => XS.iand X1.here hx rfl (hb hby d6_15) rfl) ?_
  show Go p.tables e below T1 (mkF m 16 #[.val (.ref b1), .val (.int p1)] [(.int (f1 &&& (if p1 = (0 : Int32) then (1073741824 : Int32) else (-2147483648 : Int32))))]) _
  by_cases hc3 : (f1 &&& (if p1 = (0 : Int32) then (1073741824 : Int32) else (-2147483648 : Int32))) = (0 : Int32)
  · skip
    refine go1 (fun _ => XS.ifYes X1.here hx rfl (pc0 := 16) (pc' := 23) rfl (hb hby d6_16) rfl ((if0 _ _).trans (teq hc3).1) (by decide) (by decide)) ?_
    show Go p.tables e below T1 (mkF m 23 #[.val (.ref b1), .val (.int p1)] []) _
    refine go1 (fun _ => XS.iconst X1.here hx rfl (hb hby d6_23)) ?_
    show Go p.tables e below T1 (mkF m 24 #[.val (.ref b1), .val (.int p1)] [(.int (0 : Int32))]) _
    refine goR X1 (BodyLoose.notSynchronized Bd) (v := (some (.int (0 : Int32)))) (fun h => by rw [Bd.returns] at h; cases h) (Q6 Z b1 p1 f1 h0 n0) (fun fs hr => retN X1 hx (t := .boolean) Bd.returns (by simp) (hb hby d6_24) hr) (by decide) (by decide) ?_
    show Q6 Z b1 p1 f1 h0 n0 _ T1.heap _
    rw [e1]
    exact ⟨(by rw [own_6, if_pos hc3]), N0, rfl⟩
  · skip
    refine go1 (fun _ => XS.ifNo X1.here hx rfl (hb hby d6_16) rfl ((if0 _ _).trans (feq hc3).1)) ?_
    show Go p.tables e below T1 (mkF m 19 #[.val (.ref b1), .val (.int p1)] []) _
    refine go1 (fun _ => XS.iconst X1.here hx rfl (hb hby d6_19)) ?_
    show Go p.tables e below T1 (mkF m 20 #[.val (.ref b1), .val (.int p1)] [(.int (1 : Int32))]) _
    refine go1 (fun _ => XS.goto X1.here hx rfl (pc0 := 20) (pc' := 24) rfl (hb hby d6_20) (by decide) (by decide)) ?_
    show Go p.tables e below T1 (mkF m 24 #[.val (.ref b1), .val (.int p1)] [(.int (1 : Int32))]) _
    refine goR X1 (BodyLoose.notSynchronized Bd) (v := (some (.int (1 : Int32)))) (fun h => by rw [Bd.returns] at h; cases h) (Q6 Z b1 p1 f1 h0 n0) (fun fs hr => retN X1 hx (t := .boolean) Bd.returns (by simp) (hb hby d6_24) hr) (by decide) (by decide) ?_
    show Q6 Z b1 p1 f1 h0 n0 _ T1.heap _
    rw [e1]
    exact ⟨(by rw [own_6, if_neg hc3]), N0, rfl⟩
theorem d7_0 : decode prog_6_method_8_code 0 = .ok (.aload_n 0, 1) := by decide +kernel
theorem d7_1 : decode prog_6_method_8_code 1 = .ok (.getfield 16, 3) := by decide +kernel
theorem d7_4 : decode prog_6_method_8_code 4 = .ok (.ldc 37, 2) := by decide +kernel
theorem d7_6 : decode prog_6_method_8_code 6 = .ok (.iand, 1) := by decide +kernel
theorem d7_7 : decode prog_6_method_8_code 7 = .ok (.ireturn, 1) := by decide +kernel
theorem pn_7 : plainName "com/example/carmine/carmine/Node" = true := by first | (simp [plainName, overriddenIn]; done) | decide +kernel
theorem ef_7 (m : MethodId) (b1 : Addr) : entryFrame m #[(.ref b1)] 1 = mkF m 0 #[.val (.ref b1)] [] := by first | (simp [entryFrame, mkF, argsToLocals, Value.category]; done) | rfl
def Q7 (Z : State) (b1 : Addr) (f1 : Int32) (h0 : Heap) (n0 : Nat) (v : Option Value) (h : Heap) (L : List Loc) : Prop := v = some (.int (f1 &&& (1073741823 : Int32))) ∧ Fr n0 L ∧ h = h0
set_option maxRecDepth 65536 in
set_option maxHeartbeats 40000000 in
theorem rm7 (l : Launch) (Z : State) (a0 : Array Value) (hw : ∀ d ∈ tables_1, d.before a0 Z = true) (ws : List Jvm.Cond) (b1 : Addr) (f1 : Int32) (h0 : Heap) (n0 : Nat) (Z0 : n0 ≤ h0.size) (F_sizeAndColours_b1 : Fld Z h0 b1 "com/example/carmine/carmine/Node" "sizeAndColours" "I" (.int f1)) :
    MetFree l (⟨"com/example/carmine/carmine/Node", "size", "()I"⟩ : MethodName) (head1 (Jvm.Cond.code (⟨"com/example/carmine/carmine/Node", "size", "()I"⟩ : MethodName) prog_6_method_8_code 1 (some .int) :: ws) ({ frames := 0, cells := 0, slots := 0, locals := 0 } : Room)) (fun a U => a = #[(.ref b1)] ∧ Z.Warmed39 U.vm ∧ U.heap = h0) (fun _ _ _ _ _ => True) (fun _ U o U' => ∃ v L, o = .returned v ∧ Q7 Z b1 f1 h0 n0 v U'.heap L ∧ FrameEnd U o U' L ({ frames := 0, cells := 0, slots := 0, locals := 0 } : Room).cells ({ frames := 0, cells := 0, slots := 0, locals := 0 } : Room).slots) := by
  refine MetFree.of_bodySF (plainFor_of_name pn_7) hisR ?_
  intro p e s m args below meth c s₁ Bd hml0 hP hK
  obtain ⟨rfl, hZ, hh⟩ := hP
  have hx := Bd.exec
  have hby := Bd.bytes
  have hml : c.maxLocals = 1 := hml0
  have hown : s.vm.findClass "com/example/carmine/carmine/Node" = some m.cls := findClass_of_methodNamed Bd.named
  have hnm := (name_of_methodNamed Bd.named Bd.method).1
  have X0 : Stand p l e ({ frames := 0, cells := 0, slots := 0, locals := 0 } : Room) s m #[(.ref b1)] below meth c s₁ [] 0 0 := Stand.of_body Bd
  have e0 : s₁.heap = h0 := by rw [← hh, Bd.state]; rfl
  have N0 := Fr.nil n0
  refine goB (ef_7 m b1) ?_
  show Go p.tables e below s₁ (mkF m 0 #[.val (.ref b1)] []) _
  refine go1 (fun _ => XS.aloadN X0.here hx rfl (hb hby d7_0) rfl rfl) ?_
  show Go p.tables e below s₁ (mkF m 1 #[.val (.ref b1)] [(.ref b1)]) _
  obtain ⟨T1, X1, e1, st1⟩ := getF X0 hx hZ hown (host := "") (Or.inl (hw _ (List.mem_of_getElem? (i := 21) rfl))) Via.refl e0 F_sizeAndColours_b1 (g := (mkF m 1 #[.val (.ref b1)] [(.ref b1)])) rfl rfl (hb hby d7_1)
  refine go1 st1 ?_
  show Go p.tables e below T1 (mkF m 4 #[.val (.ref b1)] [(.int f1)]) _
  refine go1 (X1.ldcInt hx hown (mvT hZ (hw _ (List.mem_of_getElem? (i := 45) rfl))) (g := (mkF m 4 #[.val (.ref b1)] [(.int f1)])) rfl (hb hby d7_4)) ?_
  show Go p.tables e below T1 (mkF m 6 #[.val (.ref b1)] [(.int (1073741823 : Int32)), (.int f1)]) _
  refine go1 (fun _ => XS.iand X1.here hx rfl (hb hby d7_6) rfl) ?_
  show Go p.tables e below T1 (mkF m 7 #[.val (.ref b1)] [(.int (f1 &&& (1073741823 : Int32)))]) _
  refine goR X1 (BodyLoose.notSynchronized Bd) (v := (some (.int (f1 &&& (1073741823 : Int32))))) (fun h => by rw [Bd.returns] at h; cases h) (Q7 Z b1 f1 h0 n0) (fun fs hr => retI X1 hx Bd.returns (hb hby d7_7) hr) (by decide) (by decide) ?_
  show Q7 Z b1 f1 h0 n0 _ T1.heap _
  rw [e1]
  exact ⟨rfl, N0, rfl⟩
theorem own_dist (a b c : Int32) : (a ||| b) &&& c = (a &&& c) ||| (b &&& c) := by
  apply Int32.toBitVec_inj.mp
  show (a.toBitVec ||| b.toBitVec) &&& c.toBitVec = (a.toBitVec &&& c.toBitVec) ||| (b.toBitVec &&& c.toBitVec)
  ext i
  simp [Bool.and_or_distrib_right]
theorem own_b {P : Prop} [Decidable P] {z : Int32} (h : z = if P then (0 : Int32) else (1 : Int32)) : z = 0 ∨ z = 1 := by
  by_cases q : P
  · rw [if_pos q] at h; exact Or.inl h
  · rw [if_neg q] at h; exact Or.inr h
theorem own_zz (x c m : Int32) (h : c &&& m = 0) : (x &&& c) &&& m = 0 := by rw [Int32.and_assoc, h, Int32.and_zero]
theorem own_kk (x c m : Int32) (h : c &&& m = c) : (x &&& c) &&& m = x &&& c := by rw [Int32.and_assoc, h]
theorem own_nodes (l r d c x : Int32) (hl : l = 0 ∨ l = 1) (hr : r = 0 ∨ r = 1) (hd : d = 0 ∨ d = 1) (hc : c = 0 ∨ c = 1) :
    own_6 (1 : Int32) (own_red (((if l = (0 : Int32) then (0 : Int32) else (-2147483648 : Int32)) ||| (if r = (0 : Int32) then (0 : Int32) else (1073741824 : Int32))) ||| (x &&& (1073741823 : Int32))) d c) = (if d = (0 : Int32) then l else c) ∧ own_6 (0 : Int32) (own_red (((if l = (0 : Int32) then (0 : Int32) else (-2147483648 : Int32)) ||| (if r = (0 : Int32) then (0 : Int32) else (1073741824 : Int32))) ||| (x &&& (1073741823 : Int32))) d c) = (if d = (0 : Int32) then c else r) ∧ ((own_red (((if l = (0 : Int32) then (0 : Int32) else (-2147483648 : Int32)) ||| (if r = (0 : Int32) then (0 : Int32) else (1073741824 : Int32))) ||| (x &&& (1073741823 : Int32))) d c) &&& (1073741823 : Int32)) = (x &&& (1073741823 : Int32)) := by
  have z1 := own_zz x (1073741823 : Int32) (-2147483648 : Int32) (by decide)
  have z2 := own_zz x (1073741823 : Int32) (1073741824 : Int32) (by decide)
  have k1 := own_kk x (1073741823 : Int32) (1073741823 : Int32) (by decide)
  have k2 := own_kk x (1073741823 : Int32) ((-2147483648 : Int32) ^^^ (-1 : Int32)) (by decide)
  have k3 := own_kk x (1073741823 : Int32) ((1073741824 : Int32) ^^^ (-1 : Int32)) (by decide)
  have k4 := own_kk x (1073741823 : Int32) (~~~(1073741824 : Int32)) (by decide)
  have k5 := own_kk x (1073741823 : Int32) (~~~(-2147483648 : Int32)) (by decide)
  generalize (x &&& (1073741823 : Int32)) = s at *
  have e00 : (-2147483648 : Int32) &&& (-2147483648 : Int32) = (-2147483648 : Int32) := by decide
  have e01 : (-2147483648 : Int32) &&& (1073741824 : Int32) = (0 : Int32) := by decide
  have e02 : (-2147483648 : Int32) &&& (1073741823 : Int32) = (0 : Int32) := by decide
  have e03 : (-2147483648 : Int32) &&& ~~~(1073741824 : Int32) = (-2147483648 : Int32) := by decide
  have e04 : (-2147483648 : Int32) &&& ~~~(-2147483648 : Int32) = (0 : Int32) := by decide
  have e10 : (1073741824 : Int32) &&& (-2147483648 : Int32) = (0 : Int32) := by decide
  have e11 : (1073741824 : Int32) &&& (1073741824 : Int32) = (1073741824 : Int32) := by decide
  have e12 : (1073741824 : Int32) &&& (1073741823 : Int32) = (0 : Int32) := by decide
  have e13 : (1073741824 : Int32) &&& ~~~(1073741824 : Int32) = (0 : Int32) := by decide
  have e14 : (1073741824 : Int32) &&& ~~~(-2147483648 : Int32) = (1073741824 : Int32) := by decide
  rcases hl with rfl | rfl <;> rcases hr with rfl | rfl <;> rcases hd with rfl | rfl <;> rcases hc with rfl | rfl <;>
    simp [own_6, own_red, own_dist, z1, z2, k1, k2, k3, k4, k5, e00, e01, e02, e03, e04, e10, e11, e12, e13, e14]
theorem pn_0 : plainName "com/example/carmine/carmine/NodeSetRedPinLaw" = true := by first | (simp [plainName, overriddenIn]; done) | decide +kernel
theorem pd0_0 : parseMethodDescriptor "(I)Ljava/lang/Integer;" = some ⟨[.int], some (.object "java/lang/Integer")⟩ := by decide +kernel
theorem pd0_1 : parseMethodDescriptor "(Ljava/lang/Object;Ljava/lang/Object;)V" = some ⟨[(.object "java/lang/Object"), (.object "java/lang/Object")], none⟩ := by decide +kernel
theorem pd0_2 : parseMethodDescriptor "(ZZI)V" = some ⟨[.boolean, .boolean, .int], none⟩ := by decide +kernel
theorem pd0_3 : parseMethodDescriptor "(ZZ)V" = some ⟨[.boolean, .boolean], none⟩ := by decide +kernel
theorem pd0_4 : parseMethodDescriptor "(Z)Z" = some ⟨[.boolean], some .boolean⟩ := by decide +kernel
theorem pd0_5 : parseMethodDescriptor "()I" = some ⟨[], some .int⟩ := by decide +kernel
theorem ef_0 (m : MethodId) (p1 : Int32) (p2 : Int32) : entryFrame m #[(.int p1), (.int p2)] maxLocals = mkF m 0 #[.val (.int p1), .val (.int p2), .unset, .unset, .unset, .unset, .unset, .unset, .unset, .unset] [] := by first | (simp [entryFrame, mkF, argsToLocals, Value.category, maxLocals]; done) | rfl
def Q0 (Z : State) (p1 : Int32) (p2 : Int32) (a_cache : Addr) (h0 : Heap) (n0 : Nat) (v : Option Value) (h : Heap) (L : List Loc) : Prop := v = some (.int (1 : Int32)) ∧ Fr n0 L
set_option maxRecDepth 65536 in
set_option maxHeartbeats 40000000 in
theorem rm0 (l : Launch) (Z : State) (a0 : Array Value) (hw : ∀ d ∈ tables_1, d.before a0 Z = true) (ws : List Jvm.Cond) (p1 : Int32) (p2 : Int32) (a_cache : Addr) (h0 : Heap) (n0 : Nat) (Z0 : n0 ≤ h0.size) (O0 : Old Z n0 h0) (S_cache : Sta Z Z.heap "java/lang/Integer$IntegerCache" "cache" "[Ljava/lang/Integer;" (.ref a_cache)) (ES_a_cache : Exa Z Z.heap a_cache "[Ljava/lang/Integer;") (S_high : Sta Z Z.heap "java/lang/Integer$IntegerCache" "high" "I" (.int (127 : Int32))) (BX_a_cache : ∃ cB : Cell, Bxs Z a_cache cB "java/lang/Integer" "I" (256 : Int32) (fun j => .int (j - (128 : Int32)))) :
    MetFree l x (head1 (Jvm.Cond.code x code maxLocals ret :: ws) room_1) (fun a U => a = #[(.int p1), (.int p2)] ∧ Z.Warmed39 U.vm ∧ U.heap = h0) (fun _ _ _ _ _ => True) (fun _ U o U' => ∃ v L, o = .returned v ∧ Q0 Z p1 p2 a_cache h0 n0 v U'.heap L ∧ FrameEnd U o U' L 16 128) := by
  refine MetFree.of_bodySF (plainFor_of_name pn_0) hisR ?_
  intro p e s m args below meth c s₁ Bd hml0 hP hK
  obtain ⟨rfl, hZ, hh⟩ := hP
  have hx := Bd.exec
  have hby := Bd.bytes
  have hml : c.maxLocals = 10 := hml0
  have hown : s.vm.findClass "com/example/carmine/carmine/NodeSetRedPinLaw" = some m.cls := findClass_of_methodNamed Bd.named
  have hnm := (name_of_methodNamed Bd.named Bd.method).1
  have X0 : Stand p l e room_1 s m #[(.int p1), (.int p2)] below meth c s₁ [] 0 0 := Stand.of_body Bd
  have e0 : s₁.heap = h0 := by rw [← hh, Bd.state]; rfl
  have N0 := Fr.nil n0
  refine goB (ef_0 m p1 p2) ?_
  show Go p.tables e below s₁ (mkF m 0 #[.val (.int p1), .val (.int p2), .unset, .unset, .unset, .unset, .unset, .unset, .unset, .unset] []) _
  refine go1 (fun _ => XS.iloadN X0.here hx rfl (hb hby at_0) rfl) ?_
  show Go p.tables e below s₁ (mkF m 1 #[.val (.int p1), .val (.int p2), .unset, .unset, .unset, .unset, .unset, .unset, .unset, .unset] [(.int p1)]) _
  refine go1 (fun _ => XS.iconst X0.here hx rfl (hb hby at_1)) ?_
  show Go p.tables e below s₁ (mkF m 2 #[.val (.int p1), .val (.int p2), .unset, .unset, .unset, .unset, .unset, .unset, .unset, .unset] [(.int (1 : Int32)), (.int p1)]) _
  refine go1 (fun _ => XS.iand X0.here hx rfl (hb hby at_2) rfl) ?_
  show Go p.tables e below s₁ (mkF m 3 #[.val (.int p1), .val (.int p2), .unset, .unset, .unset, .unset, .unset, .unset, .unset, .unset] [(.int (p1 &&& (1 : Int32)))]) _
  refine go1 (T' := s₁) (g' := (mkF m 11 #[.val (.int p1), .val (.int p2), .unset, .unset, .unset, .unset, .unset, .unset, .unset, .unset] [(.int (if (p1 &&& (1 : Int32)) = (0 : Int32) then (0 : Int32) else (1 : Int32)))])) (fun t k => ?_) ?_
  · by_cases hd1 : (p1 &&& (1 : Int32)) = (0 : Int32)
    · skip
      rw [(if_pos hd1 : (if (p1 &&& (1 : Int32)) = (0 : Int32) then (0 : Int32) else (1 : Int32)) = (0 : Int32))] at k
      show Steps p.tables e below (s₁.setTop (mkF m 3 #[.val (.int p1), .val (.int p2), .unset, .unset, .unset, .unset, .unset, .unset, .unset, .unset] [(.int (p1 &&& (1 : Int32)))])) _
      refine XS.ifYes X0.here hx rfl (pc0 := 3) (pc' := 10) rfl (hb hby at_3) rfl ((if0 _ _).trans (teq hd1).1) (by decide) (by decide) ?_
      show Steps p.tables e below (s₁.setTop (mkF m 10 #[.val (.int p1), .val (.int p2), .unset, .unset, .unset, .unset, .unset, .unset, .unset, .unset] [])) _
      refine XS.iconst X0.here hx rfl (hb hby at_10) ?_
      show Steps p.tables e below (s₁.setTop (mkF m 11 #[.val (.int p1), .val (.int p2), .unset, .unset, .unset, .unset, .unset, .unset, .unset, .unset] [(.int (0 : Int32))])) _
      exact k
    · skip
      rw [(if_neg hd1 : (if (p1 &&& (1 : Int32)) = (0 : Int32) then (0 : Int32) else (1 : Int32)) = (1 : Int32))] at k
      show Steps p.tables e below (s₁.setTop (mkF m 3 #[.val (.int p1), .val (.int p2), .unset, .unset, .unset, .unset, .unset, .unset, .unset, .unset] [(.int (p1 &&& (1 : Int32)))])) _
      refine XS.ifNo X0.here hx rfl (hb hby at_3) rfl ((if0 _ _).trans (feq hd1).1) ?_
      show Steps p.tables e below (s₁.setTop (mkF m 6 #[.val (.int p1), .val (.int p2), .unset, .unset, .unset, .unset, .unset, .unset, .unset, .unset] [])) _
      refine XS.iconst X0.here hx rfl (hb hby at_6) ?_
      show Steps p.tables e below (s₁.setTop (mkF m 7 #[.val (.int p1), .val (.int p2), .unset, .unset, .unset, .unset, .unset, .unset, .unset, .unset] [(.int (1 : Int32))])) _
      refine XS.goto X0.here hx rfl (pc0 := 7) (pc' := 11) rfl (hb hby at_7) (by decide) (by decide) ?_
      show Steps p.tables e below (s₁.setTop (mkF m 11 #[.val (.int p1), .val (.int p2), .unset, .unset, .unset, .unset, .unset, .unset, .unset, .unset] [(.int (1 : Int32))])) _
      exact k
  show Go p.tables e below s₁ (mkF m 11 #[.val (.int p1), .val (.int p2), .unset, .unset, .unset, .unset, .unset, .unset, .unset, .unset] [(.int (if (p1 &&& (1 : Int32)) = (0 : Int32) then (0 : Int32) else (1 : Int32)))]) _
  obtain ⟨z2, hz2⟩ : ∃ z : Int32, z = (if (p1 &&& (1 : Int32)) = (0 : Int32) then (0 : Int32) else (1 : Int32)) := ⟨_, rfl⟩
  rw [← hz2]
  show Go p.tables e below s₁ (mkF m 11 #[.val (.int p1), .val (.int p2), .unset, .unset, .unset, .unset, .unset, .unset, .unset, .unset] [(.int z2)]) _
  refine go1 (fun _ => XS.istoreN X0.here hx rfl (hb hby at_11) rfl (l' := #[.val (.int p1), .val (.int p2), .val (.int z2), .unset, .unset, .unset, .unset, .unset, .unset, .unset]) rfl) ?_
  show Go p.tables e below s₁ (mkF m 12 #[.val (.int p1), .val (.int p2), .val (.int z2), .unset, .unset, .unset, .unset, .unset, .unset, .unset] []) _
  refine go1 (fun _ => XS.iloadN X0.here hx rfl (hb hby at_12) rfl) ?_
  show Go p.tables e below s₁ (mkF m 13 #[.val (.int p1), .val (.int p2), .val (.int z2), .unset, .unset, .unset, .unset, .unset, .unset, .unset] [(.int p1)]) _
  refine go1 (fun _ => XS.iconst X0.here hx rfl (hb hby at_13)) ?_
  show Go p.tables e below s₁ (mkF m 14 #[.val (.int p1), .val (.int p2), .val (.int z2), .unset, .unset, .unset, .unset, .unset, .unset, .unset] [(.int (2 : Int32)), (.int p1)]) _
  refine go1 (fun _ => XS.iand X0.here hx rfl (hb hby at_14) rfl) ?_
  show Go p.tables e below s₁ (mkF m 15 #[.val (.int p1), .val (.int p2), .val (.int z2), .unset, .unset, .unset, .unset, .unset, .unset, .unset] [(.int (p1 &&& (2 : Int32)))]) _
  refine go1 (T' := s₁) (g' := (mkF m 23 #[.val (.int p1), .val (.int p2), .val (.int z2), .unset, .unset, .unset, .unset, .unset, .unset, .unset] [(.int (if (p1 &&& (2 : Int32)) = (0 : Int32) then (0 : Int32) else (1 : Int32)))])) (fun t k => ?_) ?_
  · by_cases hd3 : (p1 &&& (2 : Int32)) = (0 : Int32)
    · skip
      rw [(if_pos hd3 : (if (p1 &&& (2 : Int32)) = (0 : Int32) then (0 : Int32) else (1 : Int32)) = (0 : Int32))] at k
      show Steps p.tables e below (s₁.setTop (mkF m 15 #[.val (.int p1), .val (.int p2), .val (.int z2), .unset, .unset, .unset, .unset, .unset, .unset, .unset] [(.int (p1 &&& (2 : Int32)))])) _
      refine XS.ifYes X0.here hx rfl (pc0 := 15) (pc' := 22) rfl (hb hby at_15) rfl ((if0 _ _).trans (teq hd3).1) (by decide) (by decide) ?_
      show Steps p.tables e below (s₁.setTop (mkF m 22 #[.val (.int p1), .val (.int p2), .val (.int z2), .unset, .unset, .unset, .unset, .unset, .unset, .unset] [])) _
      refine XS.iconst X0.here hx rfl (hb hby at_22) ?_
      show Steps p.tables e below (s₁.setTop (mkF m 23 #[.val (.int p1), .val (.int p2), .val (.int z2), .unset, .unset, .unset, .unset, .unset, .unset, .unset] [(.int (0 : Int32))])) _
      exact k
    · skip
      rw [(if_neg hd3 : (if (p1 &&& (2 : Int32)) = (0 : Int32) then (0 : Int32) else (1 : Int32)) = (1 : Int32))] at k
      show Steps p.tables e below (s₁.setTop (mkF m 15 #[.val (.int p1), .val (.int p2), .val (.int z2), .unset, .unset, .unset, .unset, .unset, .unset, .unset] [(.int (p1 &&& (2 : Int32)))])) _
      refine XS.ifNo X0.here hx rfl (hb hby at_15) rfl ((if0 _ _).trans (feq hd3).1) ?_
      show Steps p.tables e below (s₁.setTop (mkF m 18 #[.val (.int p1), .val (.int p2), .val (.int z2), .unset, .unset, .unset, .unset, .unset, .unset, .unset] [])) _
      refine XS.iconst X0.here hx rfl (hb hby at_18) ?_
      show Steps p.tables e below (s₁.setTop (mkF m 19 #[.val (.int p1), .val (.int p2), .val (.int z2), .unset, .unset, .unset, .unset, .unset, .unset, .unset] [(.int (1 : Int32))])) _
      refine XS.goto X0.here hx rfl (pc0 := 19) (pc' := 23) rfl (hb hby at_19) (by decide) (by decide) ?_
      show Steps p.tables e below (s₁.setTop (mkF m 23 #[.val (.int p1), .val (.int p2), .val (.int z2), .unset, .unset, .unset, .unset, .unset, .unset, .unset] [(.int (1 : Int32))])) _
      exact k
  show Go p.tables e below s₁ (mkF m 23 #[.val (.int p1), .val (.int p2), .val (.int z2), .unset, .unset, .unset, .unset, .unset, .unset, .unset] [(.int (if (p1 &&& (2 : Int32)) = (0 : Int32) then (0 : Int32) else (1 : Int32)))]) _
  obtain ⟨z4, hz4⟩ : ∃ z : Int32, z = (if (p1 &&& (2 : Int32)) = (0 : Int32) then (0 : Int32) else (1 : Int32)) := ⟨_, rfl⟩
  rw [← hz4]
  show Go p.tables e below s₁ (mkF m 23 #[.val (.int p1), .val (.int p2), .val (.int z2), .unset, .unset, .unset, .unset, .unset, .unset, .unset] [(.int z4)]) _
  refine go1 (fun _ => XS.istoreN X0.here hx rfl (hb hby at_23) rfl (l' := #[.val (.int p1), .val (.int p2), .val (.int z2), .val (.int z4), .unset, .unset, .unset, .unset, .unset, .unset]) rfl) ?_
  show Go p.tables e below s₁ (mkF m 24 #[.val (.int p1), .val (.int p2), .val (.int z2), .val (.int z4), .unset, .unset, .unset, .unset, .unset, .unset] []) _
  refine go1 (fun _ => XS.iloadN X0.here hx rfl (hb hby at_24) rfl) ?_
  show Go p.tables e below s₁ (mkF m 25 #[.val (.int p1), .val (.int p2), .val (.int z2), .val (.int z4), .unset, .unset, .unset, .unset, .unset, .unset] [(.int p1)]) _
  refine go1 (fun _ => XS.iconst X0.here hx rfl (hb hby at_25)) ?_
  show Go p.tables e below s₁ (mkF m 26 #[.val (.int p1), .val (.int p2), .val (.int z2), .val (.int z4), .unset, .unset, .unset, .unset, .unset, .unset] [(.int (4 : Int32)), (.int p1)]) _
  refine go1 (fun _ => XS.iand X0.here hx rfl (hb hby at_26) rfl) ?_
  show Go p.tables e below s₁ (mkF m 27 #[.val (.int p1), .val (.int p2), .val (.int z2), .val (.int z4), .unset, .unset, .unset, .unset, .unset, .unset] [(.int (p1 &&& (4 : Int32)))]) _
  refine go1 (T' := s₁) (g' := (mkF m 35 #[.val (.int p1), .val (.int p2), .val (.int z2), .val (.int z4), .unset, .unset, .unset, .unset, .unset, .unset] [(.int (if (p1 &&& (4 : Int32)) = (0 : Int32) then (0 : Int32) else (1 : Int32)))])) (fun t k => ?_) ?_
  · by_cases hd5 : (p1 &&& (4 : Int32)) = (0 : Int32)
    · skip
      rw [(if_pos hd5 : (if (p1 &&& (4 : Int32)) = (0 : Int32) then (0 : Int32) else (1 : Int32)) = (0 : Int32))] at k
      show Steps p.tables e below (s₁.setTop (mkF m 27 #[.val (.int p1), .val (.int p2), .val (.int z2), .val (.int z4), .unset, .unset, .unset, .unset, .unset, .unset] [(.int (p1 &&& (4 : Int32)))])) _
      refine XS.ifYes X0.here hx rfl (pc0 := 27) (pc' := 34) rfl (hb hby at_27) rfl ((if0 _ _).trans (teq hd5).1) (by decide) (by decide) ?_
      show Steps p.tables e below (s₁.setTop (mkF m 34 #[.val (.int p1), .val (.int p2), .val (.int z2), .val (.int z4), .unset, .unset, .unset, .unset, .unset, .unset] [])) _
      refine XS.iconst X0.here hx rfl (hb hby at_34) ?_
      show Steps p.tables e below (s₁.setTop (mkF m 35 #[.val (.int p1), .val (.int p2), .val (.int z2), .val (.int z4), .unset, .unset, .unset, .unset, .unset, .unset] [(.int (0 : Int32))])) _
      exact k
    · skip
      rw [(if_neg hd5 : (if (p1 &&& (4 : Int32)) = (0 : Int32) then (0 : Int32) else (1 : Int32)) = (1 : Int32))] at k
      show Steps p.tables e below (s₁.setTop (mkF m 27 #[.val (.int p1), .val (.int p2), .val (.int z2), .val (.int z4), .unset, .unset, .unset, .unset, .unset, .unset] [(.int (p1 &&& (4 : Int32)))])) _
      refine XS.ifNo X0.here hx rfl (hb hby at_27) rfl ((if0 _ _).trans (feq hd5).1) ?_
      show Steps p.tables e below (s₁.setTop (mkF m 30 #[.val (.int p1), .val (.int p2), .val (.int z2), .val (.int z4), .unset, .unset, .unset, .unset, .unset, .unset] [])) _
      refine XS.iconst X0.here hx rfl (hb hby at_30) ?_
      show Steps p.tables e below (s₁.setTop (mkF m 31 #[.val (.int p1), .val (.int p2), .val (.int z2), .val (.int z4), .unset, .unset, .unset, .unset, .unset, .unset] [(.int (1 : Int32))])) _
      refine XS.goto X0.here hx rfl (pc0 := 31) (pc' := 35) rfl (hb hby at_31) (by decide) (by decide) ?_
      show Steps p.tables e below (s₁.setTop (mkF m 35 #[.val (.int p1), .val (.int p2), .val (.int z2), .val (.int z4), .unset, .unset, .unset, .unset, .unset, .unset] [(.int (1 : Int32))])) _
      exact k
  show Go p.tables e below s₁ (mkF m 35 #[.val (.int p1), .val (.int p2), .val (.int z2), .val (.int z4), .unset, .unset, .unset, .unset, .unset, .unset] [(.int (if (p1 &&& (4 : Int32)) = (0 : Int32) then (0 : Int32) else (1 : Int32)))]) _
  obtain ⟨z6, hz6⟩ : ∃ z : Int32, z = (if (p1 &&& (4 : Int32)) = (0 : Int32) then (0 : Int32) else (1 : Int32)) := ⟨_, rfl⟩
  rw [← hz6]
  show Go p.tables e below s₁ (mkF m 35 #[.val (.int p1), .val (.int p2), .val (.int z2), .val (.int z4), .unset, .unset, .unset, .unset, .unset, .unset] [(.int z6)]) _
  refine go1 (fun _ => XS.istore X0.here hx rfl (hb hby at_35) rfl (l' := #[.val (.int p1), .val (.int p2), .val (.int z2), .val (.int z4), .val (.int z6), .unset, .unset, .unset, .unset, .unset]) rfl) ?_
  show Go p.tables e below s₁ (mkF m 37 #[.val (.int p1), .val (.int p2), .val (.int z2), .val (.int z4), .val (.int z6), .unset, .unset, .unset, .unset, .unset] []) _
  refine go1 (fun _ => XS.iloadN X0.here hx rfl (hb hby at_37) rfl) ?_
  show Go p.tables e below s₁ (mkF m 38 #[.val (.int p1), .val (.int p2), .val (.int z2), .val (.int z4), .val (.int z6), .unset, .unset, .unset, .unset, .unset] [(.int p1)]) _
  refine go1 (fun _ => XS.bipush X0.here hx rfl (hb hby at_38)) ?_
  show Go p.tables e below s₁ (mkF m 40 #[.val (.int p1), .val (.int p2), .val (.int z2), .val (.int z4), .val (.int z6), .unset, .unset, .unset, .unset, .unset] [(.int (8 : Int32)), (.int p1)]) _
  refine go1 (fun _ => XS.iand X0.here hx rfl (hb hby at_40) rfl) ?_
  show Go p.tables e below s₁ (mkF m 41 #[.val (.int p1), .val (.int p2), .val (.int z2), .val (.int z4), .val (.int z6), .unset, .unset, .unset, .unset, .unset] [(.int (p1 &&& (8 : Int32)))]) _
  refine go1 (T' := s₁) (g' := (mkF m 49 #[.val (.int p1), .val (.int p2), .val (.int z2), .val (.int z4), .val (.int z6), .unset, .unset, .unset, .unset, .unset] [(.int (if (p1 &&& (8 : Int32)) = (0 : Int32) then (0 : Int32) else (1 : Int32)))])) (fun t k => ?_) ?_
  · by_cases hd7 : (p1 &&& (8 : Int32)) = (0 : Int32)
    · skip
      rw [(if_pos hd7 : (if (p1 &&& (8 : Int32)) = (0 : Int32) then (0 : Int32) else (1 : Int32)) = (0 : Int32))] at k
      show Steps p.tables e below (s₁.setTop (mkF m 41 #[.val (.int p1), .val (.int p2), .val (.int z2), .val (.int z4), .val (.int z6), .unset, .unset, .unset, .unset, .unset] [(.int (p1 &&& (8 : Int32)))])) _
      refine XS.ifYes X0.here hx rfl (pc0 := 41) (pc' := 48) rfl (hb hby at_41) rfl ((if0 _ _).trans (teq hd7).1) (by decide) (by decide) ?_
      show Steps p.tables e below (s₁.setTop (mkF m 48 #[.val (.int p1), .val (.int p2), .val (.int z2), .val (.int z4), .val (.int z6), .unset, .unset, .unset, .unset, .unset] [])) _
      refine XS.iconst X0.here hx rfl (hb hby at_48) ?_
      show Steps p.tables e below (s₁.setTop (mkF m 49 #[.val (.int p1), .val (.int p2), .val (.int z2), .val (.int z4), .val (.int z6), .unset, .unset, .unset, .unset, .unset] [(.int (0 : Int32))])) _
      exact k
    · skip
      rw [(if_neg hd7 : (if (p1 &&& (8 : Int32)) = (0 : Int32) then (0 : Int32) else (1 : Int32)) = (1 : Int32))] at k
      show Steps p.tables e below (s₁.setTop (mkF m 41 #[.val (.int p1), .val (.int p2), .val (.int z2), .val (.int z4), .val (.int z6), .unset, .unset, .unset, .unset, .unset] [(.int (p1 &&& (8 : Int32)))])) _
      refine XS.ifNo X0.here hx rfl (hb hby at_41) rfl ((if0 _ _).trans (feq hd7).1) ?_
      show Steps p.tables e below (s₁.setTop (mkF m 44 #[.val (.int p1), .val (.int p2), .val (.int z2), .val (.int z4), .val (.int z6), .unset, .unset, .unset, .unset, .unset] [])) _
      refine XS.iconst X0.here hx rfl (hb hby at_44) ?_
      show Steps p.tables e below (s₁.setTop (mkF m 45 #[.val (.int p1), .val (.int p2), .val (.int z2), .val (.int z4), .val (.int z6), .unset, .unset, .unset, .unset, .unset] [(.int (1 : Int32))])) _
      refine XS.goto X0.here hx rfl (pc0 := 45) (pc' := 49) rfl (hb hby at_45) (by decide) (by decide) ?_
      show Steps p.tables e below (s₁.setTop (mkF m 49 #[.val (.int p1), .val (.int p2), .val (.int z2), .val (.int z4), .val (.int z6), .unset, .unset, .unset, .unset, .unset] [(.int (1 : Int32))])) _
      exact k
  show Go p.tables e below s₁ (mkF m 49 #[.val (.int p1), .val (.int p2), .val (.int z2), .val (.int z4), .val (.int z6), .unset, .unset, .unset, .unset, .unset] [(.int (if (p1 &&& (8 : Int32)) = (0 : Int32) then (0 : Int32) else (1 : Int32)))]) _
  obtain ⟨z8, hz8⟩ : ∃ z : Int32, z = (if (p1 &&& (8 : Int32)) = (0 : Int32) then (0 : Int32) else (1 : Int32)) := ⟨_, rfl⟩
  rw [← hz8]
  show Go p.tables e below s₁ (mkF m 49 #[.val (.int p1), .val (.int p2), .val (.int z2), .val (.int z4), .val (.int z6), .unset, .unset, .unset, .unset, .unset] [(.int z8)]) _
  refine go1 (fun _ => XS.istore X0.here hx rfl (hb hby at_49) rfl (l' := #[.val (.int p1), .val (.int p2), .val (.int z2), .val (.int z4), .val (.int z6), .val (.int z8), .unset, .unset, .unset, .unset]) rfl) ?_
  show Go p.tables e below s₁ (mkF m 51 #[.val (.int p1), .val (.int p2), .val (.int z2), .val (.int z4), .val (.int z6), .val (.int z8), .unset, .unset, .unset, .unset] []) _
  refine go1 (fun _ => XS.iloadN X0.here hx rfl (hb hby at_51) rfl) ?_
  show Go p.tables e below s₁ (mkF m 52 #[.val (.int p1), .val (.int p2), .val (.int z2), .val (.int z4), .val (.int z6), .val (.int z8), .unset, .unset, .unset, .unset] [(.int p2)]) _
  refine go1 (X0.ldcInt hx hown (mvT hZ (hw _ (List.mem_of_getElem? (i := 0) rfl))) (g := (mkF m 52 #[.val (.int p1), .val (.int p2), .val (.int z2), .val (.int z4), .val (.int z6), .val (.int z8), .unset, .unset, .unset, .unset] [(.int p2)])) rfl (hb hby at_52)) ?_
  show Go p.tables e below s₁ (mkF m 54 #[.val (.int p1), .val (.int p2), .val (.int z2), .val (.int z4), .val (.int z6), .val (.int z8), .unset, .unset, .unset, .unset] [(.int (1073741823 : Int32)), (.int p2)]) _
  refine go1 (fun _ => XS.iand X0.here hx rfl (hb hby at_54) rfl) ?_
  show Go p.tables e below s₁ (mkF m 55 #[.val (.int p1), .val (.int p2), .val (.int z2), .val (.int z4), .val (.int z6), .val (.int z8), .unset, .unset, .unset, .unset] [(.int (p2 &&& (1073741823 : Int32)))]) _
  refine go1 (fun _ => XS.istore X0.here hx rfl (hb hby at_55) rfl (l' := #[.val (.int p1), .val (.int p2), .val (.int z2), .val (.int z4), .val (.int z6), .val (.int z8), .val (.int (p2 &&& (1073741823 : Int32))), .unset, .unset, .unset]) rfl) ?_
  show Go p.tables e below s₁ (mkF m 57 #[.val (.int p1), .val (.int p2), .val (.int z2), .val (.int z4), .val (.int z6), .val (.int z8), .val (.int (p2 &&& (1073741823 : Int32))), .unset, .unset, .unset] []) _
  obtain ⟨T9, h9, X9, e9, E9, A9, D9, -, st9⟩ := newO X0 hx hZ hown (hw _ (List.mem_of_getElem? (i := 1) rfl)) (hw _ (List.mem_of_getElem? (i := 2) rfl)) (hw _ (List.mem_of_getElem? (i := 3) rfl)) e0 (g := (mkF m 57 #[.val (.int p1), .val (.int p2), .val (.int z2), .val (.int z4), .val (.int z6), .val (.int z8), .val (.int (p2 &&& (1073741823 : Int32))), .unset, .unset, .unset] [])) rfl (hb hby at_57) (by decide) (by decide)
  obtain ⟨b9, g9⟩ : ∃ z, z = h0.size := ⟨_, rfl⟩
  rw [← g9] at A9 D9 st9
  have g_b9 : n0 ≤ b9 := Nat.le_trans Z0 (Nat.le_of_eq g9.symm)
  have F_key_b9 : Fld Z h9 b9 "com/example/carmine/carmine/Node" "key" "Ljava/lang/Object;" .null := D9 (Or.inl (hw _ (List.mem_of_getElem? (i := 18) rfl))) (ty := (.object "java/lang/Object")) (by decide)
  have F_value_b9 : Fld Z h9 b9 "com/example/carmine/carmine/Node" "value" "Ljava/lang/Object;" .null := D9 (Or.inl (hw _ (List.mem_of_getElem? (i := 20) rfl))) (ty := (.object "java/lang/Object")) (by decide)
  have F_sizeAndColours_b9 : Fld Z h9 b9 "com/example/carmine/carmine/Node" "sizeAndColours" "I" (.int (0 : Int32)) := D9 (Or.inl (hw _ (List.mem_of_getElem? (i := 22) rfl))) (ty := .int) (by decide)
  refine go1 st9 ?_
  show Go p.tables e below T9 (mkF m 60 #[.val (.int p1), .val (.int p2), .val (.int z2), .val (.int z4), .val (.int z6), .val (.int z8), .val (.int (p2 &&& (1073741823 : Int32))), .unset, .unset, .unset] [(.ref b9)]) _
  refine go1 (fun _ => XS.dup X9.here hx rfl (hb hby at_60) rfl rfl) ?_
  show Go p.tables e below T9 (mkF m 61 #[.val (.int p1), .val (.int p2), .val (.int z2), .val (.int z4), .val (.int z6), .val (.int z8), .val (.int (p2 &&& (1073741823 : Int32))), .unset, .unset, .unset] [(.ref b9), (.ref b9)]) _
  refine go1 (fun _ => XS.iloadN X9.here hx rfl (hb hby at_61) rfl) ?_
  show Go p.tables e below T9 (mkF m 62 #[.val (.int p1), .val (.int p2), .val (.int z2), .val (.int z4), .val (.int z6), .val (.int z8), .val (.int (p2 &&& (1073741823 : Int32))), .unset, .unset, .unset] [(.int p2), (.ref b9), (.ref b9)]) _
  obtain ⟨_, _, ⟨T10, L10, k10, n10⟩, -, X10, ⟨Lc10, hQ10, l10, y10, z10⟩, st10⟩ := Jvm.LawKit.callS X9 hx (y := (⟨"java/lang/Integer", "valueOf", "(I)Ljava/lang/Integer;"⟩ : MethodName)) hown (mvT hZ (hw _ (List.mem_of_getElem? (i := 4) rfl))) (mvT hZ (hw _ (List.mem_of_getElem? (i := 5) rfl))) (mvT hZ (hw _ (List.mem_of_getElem? (i := 6) rfl))) (mvT hZ (hw _ (List.mem_of_getElem? (i := 7) rfl))) (by decide) (backOf (W := 2) (rm1 l Z a0 hw [] p2 a_cache h9 n0 (Nat.le_trans Z0 E9.1) (O0.ext E9) S_high S_cache BX_a_cache) hZ (hw _ (List.mem_of_getElem? (i := 7) rfl)) (hw _ (List.mem_of_getElem? (i := 6) rfl)) (by decide) (by decide)) (g := (mkF m 62 #[.val (.int p1), .val (.int p2), .val (.int z2), .val (.int z4), .val (.int z6), .val (.int z8), .val (.int (p2 &&& (1073741823 : Int32))), .unset, .unset, .unset] [(.int p2), (.ref b9), (.ref b9)])) rfl (by rw [hml]; rfl) (argsL := [(.int p2)]) (rest := [(.ref b9), (.ref b9)]) (lenOf pd0_0 rfl) rfl (by show 2 * 0 + _ ≤ _; exact Nat.le_of_eq rfl) (hb hby at_62) (fun _ _ => ⟨rfl, e9, (by decide : 1 + 1 ≤ _), (by decide : 5 + 1 ≤ _)⟩)
  dsimp only [Pt.U, Pt.locs, Pt.cells, Pt.slots] at X10 l10 y10 z10 st10 hQ10
  subst l10 y10 z10
  obtain ⟨b11, rfl, N10q, K10, G10_0, G10_1⟩ := hQ10
  have N10 := Fr.app N0 N10q
  refine go1 st10 ?_
  show Go p.tables e below T10 (mkF m 65 #[.val (.int p1), .val (.int p2), .val (.int z2), .val (.int z4), .val (.int z6), .val (.int z8), .val (.int (p2 &&& (1073741823 : Int32))), .unset, .unset, .unset] [(.ref b11), (.ref b9), (.ref b9)]) _
  refine go1 (fun _ => XS.iloadN X10.here hx rfl (hb hby at_65) rfl) ?_
  show Go p.tables e below T10 (mkF m 66 #[.val (.int p1), .val (.int p2), .val (.int z2), .val (.int z4), .val (.int z6), .val (.int z8), .val (.int (p2 &&& (1073741823 : Int32))), .unset, .unset, .unset] [(.int p1), (.ref b11), (.ref b9), (.ref b9)]) _
  obtain ⟨_, _, ⟨T12, L12, k12, n12⟩, -, X12, ⟨Lc12, hQ12, l12, y12, z12⟩, st12⟩ := Jvm.LawKit.callS X10 hx (y := (⟨"java/lang/Integer", "valueOf", "(I)Ljava/lang/Integer;"⟩ : MethodName)) hown (mvT hZ (hw _ (List.mem_of_getElem? (i := 4) rfl))) (mvT hZ (hw _ (List.mem_of_getElem? (i := 5) rfl))) (mvT hZ (hw _ (List.mem_of_getElem? (i := 6) rfl))) (mvT hZ (hw _ (List.mem_of_getElem? (i := 7) rfl))) (by decide) (backOf (W := 3) (rm1 l Z a0 hw [] p1 a_cache T10.heap n0 (Nat.le_trans (Nat.le_trans Z0 E9.1) K10.1) ((O0.ext E9).keep K10 all0) S_high S_cache BX_a_cache) hZ (hw _ (List.mem_of_getElem? (i := 7) rfl)) (hw _ (List.mem_of_getElem? (i := 6) rfl)) (by decide) (by decide)) (g := (mkF m 66 #[.val (.int p1), .val (.int p2), .val (.int z2), .val (.int z4), .val (.int z6), .val (.int z8), .val (.int (p2 &&& (1073741823 : Int32))), .unset, .unset, .unset] [(.int p1), (.ref b11), (.ref b9), (.ref b9)])) rfl (by rw [hml]; rfl) (argsL := [(.int p1)]) (rest := [(.ref b11), (.ref b9), (.ref b9)]) (lenOf pd0_0 rfl) rfl (by show 2 * 0 + _ ≤ _; exact Nat.le_of_eq rfl) (hb hby at_66) (fun _ _ => ⟨rfl, rfl, (by decide : 2 + 1 ≤ _), (by decide : 6 + 1 ≤ _)⟩)
  dsimp only [Pt.U, Pt.locs, Pt.cells, Pt.slots] at X12 l12 y12 z12 st12 hQ12
  subst l12 y12 z12
  obtain ⟨b13, rfl, N12q, K12, G12_0, G12_1⟩ := hQ12
  have N12 := Fr.app N10 N12q
  refine go1 st12 ?_
  show Go p.tables e below T12 (mkF m 69 #[.val (.int p1), .val (.int p2), .val (.int z2), .val (.int z4), .val (.int z6), .val (.int z8), .val (.int (p2 &&& (1073741823 : Int32))), .unset, .unset, .unset] [(.ref b13), (.ref b11), (.ref b9), (.ref b9)]) _
  obtain ⟨_, _, ⟨T14, L14, k14, n14⟩, -, X14, ⟨Lc14, hQ14, l14, y14, z14⟩, st14⟩ := X12.specialBack hx (y := (⟨"com/example/carmine/carmine/Node", "<init>", "(Ljava/lang/Object;Ljava/lang/Object;)V"⟩ : MethodName)) rfl hown (mvT hZ (hw _ (List.mem_of_getElem? (i := 11) rfl))) (mvT hZ (hw _ (List.mem_of_getElem? (i := 12) rfl))) (mvT hZ (hw _ (List.mem_of_getElem? (i := 13) rfl))) (by decide) (backOf (W := 1) (rm2 l Z a0 hw [] b9 b11 b13 T12.heap n0 (Nat.le_trans (Nat.le_trans (Nat.le_trans Z0 E9.1) K10.1) K12.1) ((F_key_b9.keep K10 nin0).keep K12 nin0) ((F_value_b9.keep K10 nin0).keep K12 nin0) ((F_sizeAndColours_b9.keep K10 nin0).keep K12 nin0) ((A9.keep K10).keep K12) g_b9) hZ (hw _ (List.mem_of_getElem? (i := 13) rfl)) (hw _ (List.mem_of_getElem? (i := 3) rfl)) (by decide) (by decide)) (g := (mkF m 69 #[.val (.int p1), .val (.int p2), .val (.int z2), .val (.int z4), .val (.int z6), .val (.int z8), .val (.int (p2 &&& (1073741823 : Int32))), .unset, .unset, .unset] [(.ref b13), (.ref b11), (.ref b9), (.ref b9)])) rfl (by rw [hml]; rfl) (Steps.refl _) (a := b9) (argsL := [(.ref b11), (.ref b13)]) (rest := [(.ref b9)]) (lenOf pd0_1 rfl) rfl (by show 2 * 0 + _ ≤ _; exact Nat.le_of_eq rfl) (hb hby at_69) (fun _ _ => ⟨rfl, rfl, (by decide : 3 + 0 ≤ _), (by decide : 7 + 0 ≤ _)⟩)
  dsimp only [Pt.U, Pt.locs, Pt.cells, Pt.slots] at X14 l14 y14 z14 st14 hQ14
  subst l14 y14 z14
  obtain ⟨rfl, N14q, K14, G14_0, G14_1, G14_2, G14_3⟩ := hQ14
  have N14 := Fr.app N12 N14q
  refine goT st14 ?_
  show Go p.tables e below T14 (mkF m 72 #[.val (.int p1), .val (.int p2), .val (.int z2), .val (.int z4), .val (.int z6), .val (.int z8), .val (.int (p2 &&& (1073741823 : Int32))), .unset, .unset, .unset] [(.ref b9)]) _
  refine go1 (fun _ => XS.astore X14.here hx rfl (hb hby at_72) rfl rfl (l' := #[.val (.int p1), .val (.int p2), .val (.int z2), .val (.int z4), .val (.int z6), .val (.int z8), .val (.int (p2 &&& (1073741823 : Int32))), .val (.ref b9), .unset, .unset]) rfl) ?_
  show Go p.tables e below T14 (mkF m 74 #[.val (.int p1), .val (.int p2), .val (.int z2), .val (.int z4), .val (.int z6), .val (.int z8), .val (.int (p2 &&& (1073741823 : Int32))), .val (.ref b9), .unset, .unset] []) _
  refine go1 (fun _ => XS.aload X14.here hx rfl (hb hby at_74) rfl rfl) ?_
  show Go p.tables e below T14 (mkF m 76 #[.val (.int p1), .val (.int p2), .val (.int z2), .val (.int z4), .val (.int z6), .val (.int z8), .val (.int (p2 &&& (1073741823 : Int32))), .val (.ref b9), .unset, .unset] [(.ref b9)]) _
  refine go1 (fun _ => XS.iloadN X14.here hx rfl (hb hby at_76) rfl) ?_
  show Go p.tables e below T14 (mkF m 77 #[.val (.int p1), .val (.int p2), .val (.int z2), .val (.int z4), .val (.int z6), .val (.int z8), .val (.int (p2 &&& (1073741823 : Int32))), .val (.ref b9), .unset, .unset] [(.int z2), (.ref b9)]) _
  refine go1 (fun _ => XS.iloadN X14.here hx rfl (hb hby at_77) rfl) ?_
  show Go p.tables e below T14 (mkF m 78 #[.val (.int p1), .val (.int p2), .val (.int z2), .val (.int z4), .val (.int z6), .val (.int z8), .val (.int (p2 &&& (1073741823 : Int32))), .val (.ref b9), .unset, .unset] [(.int z4), (.int z2), (.ref b9)]) _
  refine go1 (fun _ => XS.iload X14.here hx rfl (hb hby at_78) rfl) ?_
  show Go p.tables e below T14 (mkF m 80 #[.val (.int p1), .val (.int p2), .val (.int z2), .val (.int z4), .val (.int z6), .val (.int z8), .val (.int (p2 &&& (1073741823 : Int32))), .val (.ref b9), .unset, .unset] [(.int (p2 &&& (1073741823 : Int32))), (.int z4), (.int z2), (.ref b9)]) _
  obtain ⟨cq15, kq15, q15a, q15b, q15c⟩ := isOf hZ rfl G14_0
  obtain ⟨_, _, ⟨T15, L15, k15, n15⟩, -, X15, ⟨Lc15, hQ15, l15, y15, z15⟩, st15⟩ := X14.virtualBack hx (y := (⟨"com/example/carmine/carmine/Node", "setColoursAndSize", "(ZZI)V"⟩ : MethodName)) (z := (⟨"com/example/carmine/carmine/Node", "setColoursAndSize", "(ZZI)V"⟩ : MethodName)) hown (mvT hZ (hw _ (List.mem_of_getElem? (i := 23) rfl))) (mvT hZ (hw _ (List.mem_of_getElem? (i := 24) rfl))) (notFace_of_selects (args := #[]) (mvT hZ (hw _ (List.mem_of_getElem? (i := 26) rfl)))) (mvT hZ (hw _ (List.mem_of_getElem? (i := 26) rfl))) (mvT hZ (hw _ (List.mem_of_getElem? (i := 25) rfl))) (by decide) (backOf (W := 0) (rm4 l Z a0 hw [] b9 z2 z4 (p2 &&& (1073741823 : Int32)) (1 : Int32) T14.heap n0 (Nat.le_trans (Nat.le_trans (Nat.le_trans (Nat.le_trans Z0 E9.1) K10.1) K12.1) K14.1) G14_3 G14_0 g_b9) hZ (hw _ (List.mem_of_getElem? (i := 27) rfl)) (hw _ (List.mem_of_getElem? (i := 3) rfl)) (by decide) (by decide)) q15a q15c (g := (mkF m 80 #[.val (.int p1), .val (.int p2), .val (.int z2), .val (.int z4), .val (.int z6), .val (.int z8), .val (.int (p2 &&& (1073741823 : Int32))), .val (.ref b9), .unset, .unset] [(.int (p2 &&& (1073741823 : Int32))), (.int z4), (.int z2), (.ref b9)])) rfl (by rw [hml]; rfl) (Steps.refl _) (argsL := [(.int z2), (.int z4), (.int (p2 &&& (1073741823 : Int32)))]) (rest := []) (lenOf pd0_2 rfl) rfl (by show 2 * 0 + _ ≤ _; exact Nat.le_of_eq rfl) (hb hby at_80) (fun _ _ => ⟨rfl, rfl, (by decide : 3 + 0 ≤ _), (by decide : 7 + 0 ≤ _)⟩)
  dsimp only [Pt.U, Pt.locs, Pt.cells, Pt.slots] at X15 l15 y15 z15 st15 hQ15
  subst l15 y15 z15
  obtain ⟨rfl, N15q, K15, G15_0, G15_1⟩ := hQ15
  have N15 := Fr.app N14 N15q
  refine goT st15 ?_
  show Go p.tables e below T15 (mkF m 83 #[.val (.int p1), .val (.int p2), .val (.int z2), .val (.int z4), .val (.int z6), .val (.int z8), .val (.int (p2 &&& (1073741823 : Int32))), .val (.ref b9), .unset, .unset] []) _
  refine go1 (fun _ => XS.aload X15.here hx rfl (hb hby at_83) rfl rfl) ?_
  show Go p.tables e below T15 (mkF m 85 #[.val (.int p1), .val (.int p2), .val (.int z2), .val (.int z4), .val (.int z6), .val (.int z8), .val (.int (p2 &&& (1073741823 : Int32))), .val (.ref b9), .unset, .unset] [(.ref b9)]) _
  refine go1 (fun _ => XS.iload X15.here hx rfl (hb hby at_85) rfl) ?_
  show Go p.tables e below T15 (mkF m 87 #[.val (.int p1), .val (.int p2), .val (.int z2), .val (.int z4), .val (.int z6), .val (.int z8), .val (.int (p2 &&& (1073741823 : Int32))), .val (.ref b9), .unset, .unset] [(.int z6), (.ref b9)]) _
  refine go1 (fun _ => XS.iload X15.here hx rfl (hb hby at_87) rfl) ?_
  show Go p.tables e below T15 (mkF m 89 #[.val (.int p1), .val (.int p2), .val (.int z2), .val (.int z4), .val (.int z6), .val (.int z8), .val (.int (p2 &&& (1073741823 : Int32))), .val (.ref b9), .unset, .unset] [(.int z8), (.int z6), (.ref b9)]) _
  obtain ⟨cq16, kq16, q16a, q16b, q16c⟩ := isOf hZ rfl G15_0
  obtain ⟨_, _, ⟨T16, L16, k16, n16⟩, -, X16, ⟨Lc16, hQ16, l16, y16, z16⟩, st16⟩ := X15.virtualBack hx (y := (⟨"com/example/carmine/carmine/Node", "setRed", "(ZZ)V"⟩ : MethodName)) (z := (⟨"com/example/carmine/carmine/Node", "setRed", "(ZZ)V"⟩ : MethodName)) hown (mvT hZ (hw _ (List.mem_of_getElem? (i := 28) rfl))) (mvT hZ (hw _ (List.mem_of_getElem? (i := 29) rfl))) (notFace_of_selects (args := #[]) (mvT hZ (hw _ (List.mem_of_getElem? (i := 31) rfl)))) (mvT hZ (hw _ (List.mem_of_getElem? (i := 31) rfl))) (mvT hZ (hw _ (List.mem_of_getElem? (i := 30) rfl))) (by decide) (backOf (W := 0) (rm5 l Z a0 hw [] b9 z6 z8 (((if z2 = (0 : Int32) then (0 : Int32) else (-2147483648 : Int32)) ||| (if z4 = (0 : Int32) then (0 : Int32) else (1073741824 : Int32))) ||| (p2 &&& (1073741823 : Int32))) T15.heap n0 (Nat.le_trans (Nat.le_trans (Nat.le_trans (Nat.le_trans (Nat.le_trans Z0 E9.1) K10.1) K12.1) K14.1) K15.1) G15_1 G15_0 g_b9) hZ (hw _ (List.mem_of_getElem? (i := 32) rfl)) (hw _ (List.mem_of_getElem? (i := 3) rfl)) (by decide) (by decide)) q16a q16c (g := (mkF m 89 #[.val (.int p1), .val (.int p2), .val (.int z2), .val (.int z4), .val (.int z6), .val (.int z8), .val (.int (p2 &&& (1073741823 : Int32))), .val (.ref b9), .unset, .unset] [(.int z8), (.int z6), (.ref b9)])) rfl (by rw [hml]; rfl) (Steps.refl _) (argsL := [(.int z6), (.int z8)]) (rest := []) (lenOf pd0_3 rfl) rfl (by show 2 * 0 + _ ≤ _; exact Nat.le_of_eq rfl) (hb hby at_89) (fun _ _ => ⟨rfl, rfl, (by decide : 3 + 0 ≤ _), (by decide : 7 + 0 ≤ _)⟩)
  dsimp only [Pt.U, Pt.locs, Pt.cells, Pt.slots] at X16 l16 y16 z16 st16 hQ16
  subst l16 y16 z16
  obtain ⟨rfl, N16q, K16, G16_0, G16_1⟩ := hQ16
  have N16 := Fr.app N15 N16q
  refine goT st16 ?_
  show Go p.tables e below T16 (mkF m 92 #[.val (.int p1), .val (.int p2), .val (.int z2), .val (.int z4), .val (.int z6), .val (.int z8), .val (.int (p2 &&& (1073741823 : Int32))), .val (.ref b9), .unset, .unset] []) _
  refine go1 (fun _ => XS.iload X16.here hx rfl (hb hby at_92) rfl) ?_
  show Go p.tables e below T16 (mkF m 94 #[.val (.int p1), .val (.int p2), .val (.int z2), .val (.int z4), .val (.int z6), .val (.int z8), .val (.int (p2 &&& (1073741823 : Int32))), .val (.ref b9), .unset, .unset] [(.int z6)]) _
  refine go1 (T' := T16) (g' := (mkF m 103 #[.val (.int p1), .val (.int p2), .val (.int z2), .val (.int z4), .val (.int z6), .val (.int z8), .val (.int (p2 &&& (1073741823 : Int32))), .val (.ref b9), .unset, .unset] [(.int (if z6 = (0 : Int32) then z2 else z8))])) (fun t k => ?_) ?_
  · by_cases hd17 : z6 = (0 : Int32)
    · skip
      rw [(if_pos hd17 : (if z6 = (0 : Int32) then z2 else z8) = z2)] at k
      show Steps p.tables e below (T16.setTop (mkF m 94 #[.val (.int p1), .val (.int p2), .val (.int z2), .val (.int z4), .val (.int z6), .val (.int z8), .val (.int (p2 &&& (1073741823 : Int32))), .val (.ref b9), .unset, .unset] [(.int z6)])) _
      refine XS.ifYes X16.here hx rfl (pc0 := 94) (pc' := 102) rfl (hb hby at_94) rfl ((if0 _ _).trans (teq hd17).1) (by decide) (by decide) ?_
      show Steps p.tables e below (T16.setTop (mkF m 102 #[.val (.int p1), .val (.int p2), .val (.int z2), .val (.int z4), .val (.int z6), .val (.int z8), .val (.int (p2 &&& (1073741823 : Int32))), .val (.ref b9), .unset, .unset] [])) _
      refine XS.iloadN X16.here hx rfl (hb hby at_102) rfl ?_
      show Steps p.tables e below (T16.setTop (mkF m 103 #[.val (.int p1), .val (.int p2), .val (.int z2), .val (.int z4), .val (.int z6), .val (.int z8), .val (.int (p2 &&& (1073741823 : Int32))), .val (.ref b9), .unset, .unset] [(.int z2)])) _
      exact k
    · skip
      rw [(if_neg hd17 : (if z6 = (0 : Int32) then z2 else z8) = z8)] at k
      show Steps p.tables e below (T16.setTop (mkF m 94 #[.val (.int p1), .val (.int p2), .val (.int z2), .val (.int z4), .val (.int z6), .val (.int z8), .val (.int (p2 &&& (1073741823 : Int32))), .val (.ref b9), .unset, .unset] [(.int z6)])) _
      refine XS.ifNo X16.here hx rfl (hb hby at_94) rfl ((if0 _ _).trans (feq hd17).1) ?_
      show Steps p.tables e below (T16.setTop (mkF m 97 #[.val (.int p1), .val (.int p2), .val (.int z2), .val (.int z4), .val (.int z6), .val (.int z8), .val (.int (p2 &&& (1073741823 : Int32))), .val (.ref b9), .unset, .unset] [])) _
      refine XS.iload X16.here hx rfl (hb hby at_97) rfl ?_
      show Steps p.tables e below (T16.setTop (mkF m 99 #[.val (.int p1), .val (.int p2), .val (.int z2), .val (.int z4), .val (.int z6), .val (.int z8), .val (.int (p2 &&& (1073741823 : Int32))), .val (.ref b9), .unset, .unset] [(.int z8)])) _
      refine XS.goto X16.here hx rfl (pc0 := 99) (pc' := 103) rfl (hb hby at_99) (by decide) (by decide) ?_
      show Steps p.tables e below (T16.setTop (mkF m 103 #[.val (.int p1), .val (.int p2), .val (.int z2), .val (.int z4), .val (.int z6), .val (.int z8), .val (.int (p2 &&& (1073741823 : Int32))), .val (.ref b9), .unset, .unset] [(.int z8)])) _
      exact k
  show Go p.tables e below T16 (mkF m 103 #[.val (.int p1), .val (.int p2), .val (.int z2), .val (.int z4), .val (.int z6), .val (.int z8), .val (.int (p2 &&& (1073741823 : Int32))), .val (.ref b9), .unset, .unset] [(.int (if z6 = (0 : Int32) then z2 else z8))]) _
  refine go1 (fun _ => XS.istore X16.here hx rfl (hb hby at_103) rfl (l' := #[.val (.int p1), .val (.int p2), .val (.int z2), .val (.int z4), .val (.int z6), .val (.int z8), .val (.int (p2 &&& (1073741823 : Int32))), .val (.ref b9), .val (.int (if z6 = (0 : Int32) then z2 else z8)), .unset]) rfl) ?_
  show Go p.tables e below T16 (mkF m 105 #[.val (.int p1), .val (.int p2), .val (.int z2), .val (.int z4), .val (.int z6), .val (.int z8), .val (.int (p2 &&& (1073741823 : Int32))), .val (.ref b9), .val (.int (if z6 = (0 : Int32) then z2 else z8)), .unset] []) _
  refine go1 (fun _ => XS.iload X16.here hx rfl (hb hby at_105) rfl) ?_
  show Go p.tables e below T16 (mkF m 107 #[.val (.int p1), .val (.int p2), .val (.int z2), .val (.int z4), .val (.int z6), .val (.int z8), .val (.int (p2 &&& (1073741823 : Int32))), .val (.ref b9), .val (.int (if z6 = (0 : Int32) then z2 else z8)), .unset] [(.int z6)]) _
  refine go1 (T' := T16) (g' := (mkF m 116 #[.val (.int p1), .val (.int p2), .val (.int z2), .val (.int z4), .val (.int z6), .val (.int z8), .val (.int (p2 &&& (1073741823 : Int32))), .val (.ref b9), .val (.int (if z6 = (0 : Int32) then z2 else z8)), .unset] [(.int (if z6 = (0 : Int32) then z8 else z4))])) (fun t k => ?_) ?_
  · by_cases hd18 : z6 = (0 : Int32)
    · skip
      rw [(if_pos hd18 : (if z6 = (0 : Int32) then z8 else z4) = z8)] at k
      show Steps p.tables e below (T16.setTop (mkF m 107 #[.val (.int p1), .val (.int p2), .val (.int z2), .val (.int z4), .val (.int z6), .val (.int z8), .val (.int (p2 &&& (1073741823 : Int32))), .val (.ref b9), .val (.int (if z6 = (0 : Int32) then z2 else z8)), .unset] [(.int z6)])) _
      refine XS.ifYes X16.here hx rfl (pc0 := 107) (pc' := 114) rfl (hb hby at_107) rfl ((if0 _ _).trans (teq hd18).1) (by decide) (by decide) ?_
      show Steps p.tables e below (T16.setTop (mkF m 114 #[.val (.int p1), .val (.int p2), .val (.int z2), .val (.int z4), .val (.int z6), .val (.int z8), .val (.int (p2 &&& (1073741823 : Int32))), .val (.ref b9), .val (.int (if z6 = (0 : Int32) then z2 else z8)), .unset] [])) _
      refine XS.iload X16.here hx rfl (hb hby at_114) rfl ?_
      show Steps p.tables e below (T16.setTop (mkF m 116 #[.val (.int p1), .val (.int p2), .val (.int z2), .val (.int z4), .val (.int z6), .val (.int z8), .val (.int (p2 &&& (1073741823 : Int32))), .val (.ref b9), .val (.int (if z6 = (0 : Int32) then z2 else z8)), .unset] [(.int z8)])) _
      exact k
    · skip
      rw [(if_neg hd18 : (if z6 = (0 : Int32) then z8 else z4) = z4)] at k
      show Steps p.tables e below (T16.setTop (mkF m 107 #[.val (.int p1), .val (.int p2), .val (.int z2), .val (.int z4), .val (.int z6), .val (.int z8), .val (.int (p2 &&& (1073741823 : Int32))), .val (.ref b9), .val (.int (if z6 = (0 : Int32) then z2 else z8)), .unset] [(.int z6)])) _
      refine XS.ifNo X16.here hx rfl (hb hby at_107) rfl ((if0 _ _).trans (feq hd18).1) ?_
      show Steps p.tables e below (T16.setTop (mkF m 110 #[.val (.int p1), .val (.int p2), .val (.int z2), .val (.int z4), .val (.int z6), .val (.int z8), .val (.int (p2 &&& (1073741823 : Int32))), .val (.ref b9), .val (.int (if z6 = (0 : Int32) then z2 else z8)), .unset] [])) _
      refine XS.iloadN X16.here hx rfl (hb hby at_110) rfl ?_
      show Steps p.tables e below (T16.setTop (mkF m 111 #[.val (.int p1), .val (.int p2), .val (.int z2), .val (.int z4), .val (.int z6), .val (.int z8), .val (.int (p2 &&& (1073741823 : Int32))), .val (.ref b9), .val (.int (if z6 = (0 : Int32) then z2 else z8)), .unset] [(.int z4)])) _
      refine XS.goto X16.here hx rfl (pc0 := 111) (pc' := 116) rfl (hb hby at_111) (by decide) (by decide) ?_
      show Steps p.tables e below (T16.setTop (mkF m 116 #[.val (.int p1), .val (.int p2), .val (.int z2), .val (.int z4), .val (.int z6), .val (.int z8), .val (.int (p2 &&& (1073741823 : Int32))), .val (.ref b9), .val (.int (if z6 = (0 : Int32) then z2 else z8)), .unset] [(.int z4)])) _
      exact k
  show Go p.tables e below T16 (mkF m 116 #[.val (.int p1), .val (.int p2), .val (.int z2), .val (.int z4), .val (.int z6), .val (.int z8), .val (.int (p2 &&& (1073741823 : Int32))), .val (.ref b9), .val (.int (if z6 = (0 : Int32) then z2 else z8)), .unset] [(.int (if z6 = (0 : Int32) then z8 else z4))]) _
  refine go1 (fun _ => XS.istore X16.here hx rfl (hb hby at_116) rfl (l' := #[.val (.int p1), .val (.int p2), .val (.int z2), .val (.int z4), .val (.int z6), .val (.int z8), .val (.int (p2 &&& (1073741823 : Int32))), .val (.ref b9), .val (.int (if z6 = (0 : Int32) then z2 else z8)), .val (.int (if z6 = (0 : Int32) then z8 else z4))]) rfl) ?_
  show Go p.tables e below T16 (mkF m 118 #[.val (.int p1), .val (.int p2), .val (.int z2), .val (.int z4), .val (.int z6), .val (.int z8), .val (.int (p2 &&& (1073741823 : Int32))), .val (.ref b9), .val (.int (if z6 = (0 : Int32) then z2 else z8)), .val (.int (if z6 = (0 : Int32) then z8 else z4))] []) _
  refine go1 (fun _ => XS.aload X16.here hx rfl (hb hby at_118) rfl rfl) ?_
  show Go p.tables e below T16 (mkF m 120 #[.val (.int p1), .val (.int p2), .val (.int z2), .val (.int z4), .val (.int z6), .val (.int z8), .val (.int (p2 &&& (1073741823 : Int32))), .val (.ref b9), .val (.int (if z6 = (0 : Int32) then z2 else z8)), .val (.int (if z6 = (0 : Int32) then z8 else z4))] [(.ref b9)]) _
  refine go1 (fun _ => XS.iconst X16.here hx rfl (hb hby at_120)) ?_
  show Go p.tables e below T16 (mkF m 121 #[.val (.int p1), .val (.int p2), .val (.int z2), .val (.int z4), .val (.int z6), .val (.int z8), .val (.int (p2 &&& (1073741823 : Int32))), .val (.ref b9), .val (.int (if z6 = (0 : Int32) then z2 else z8)), .val (.int (if z6 = (0 : Int32) then z8 else z4))] [(.int (1 : Int32)), (.ref b9)]) _
  obtain ⟨cq19, kq19, q19a, q19b, q19c⟩ := isOf hZ rfl G16_0
  obtain ⟨_, _, ⟨T19, L19, k19, n19⟩, -, X19, ⟨Lc19, hQ19, l19, y19, z19⟩, st19⟩ := X16.virtualBack hx (y := (⟨"com/example/carmine/carmine/Node", "isRed", "(Z)Z"⟩ : MethodName)) (z := (⟨"com/example/carmine/carmine/Node", "isRed", "(Z)Z"⟩ : MethodName)) hown (mvT hZ (hw _ (List.mem_of_getElem? (i := 34) rfl))) (mvT hZ (hw _ (List.mem_of_getElem? (i := 35) rfl))) (notFace_of_selects (args := #[]) (mvT hZ (hw _ (List.mem_of_getElem? (i := 37) rfl)))) (mvT hZ (hw _ (List.mem_of_getElem? (i := 37) rfl))) (mvT hZ (hw _ (List.mem_of_getElem? (i := 36) rfl))) (by decide) (backOf (W := 0) (rm6 l Z a0 hw [] b9 (1 : Int32) (own_red (((if z2 = (0 : Int32) then (0 : Int32) else (-2147483648 : Int32)) ||| (if z4 = (0 : Int32) then (0 : Int32) else (1073741824 : Int32))) ||| (p2 &&& (1073741823 : Int32))) z6 z8) T16.heap n0 (Nat.le_trans (Nat.le_trans (Nat.le_trans (Nat.le_trans (Nat.le_trans (Nat.le_trans Z0 E9.1) K10.1) K12.1) K14.1) K15.1) K16.1) G16_1) hZ (hw _ (List.mem_of_getElem? (i := 38) rfl)) (hw _ (List.mem_of_getElem? (i := 3) rfl)) (by decide) (by decide)) q19a q19c (g := (mkF m 121 #[.val (.int p1), .val (.int p2), .val (.int z2), .val (.int z4), .val (.int z6), .val (.int z8), .val (.int (p2 &&& (1073741823 : Int32))), .val (.ref b9), .val (.int (if z6 = (0 : Int32) then z2 else z8)), .val (.int (if z6 = (0 : Int32) then z8 else z4))] [(.int (1 : Int32)), (.ref b9)])) rfl (by rw [hml]; rfl) (Steps.refl _) (argsL := [(.int (1 : Int32))]) (rest := []) (lenOf pd0_4 rfl) rfl (by show 2 * 0 + _ ≤ _; exact Nat.le_of_eq rfl) (hb hby at_121) (fun _ _ => ⟨rfl, rfl, (by decide : 3 + 0 ≤ _), (by decide : 7 + 0 ≤ _)⟩)
  dsimp only [Pt.U, Pt.locs, Pt.cells, Pt.slots] at X19 l19 y19 z19 st19 hQ19
  subst l19 y19 z19
  obtain ⟨rfl, N19q, e19⟩ := hQ19
  have N19 := Fr.app N16 N19q
  refine goT st19 ?_
  show Go p.tables e below T19 (mkF m 124 #[.val (.int p1), .val (.int p2), .val (.int z2), .val (.int z4), .val (.int z6), .val (.int z8), .val (.int (p2 &&& (1073741823 : Int32))), .val (.ref b9), .val (.int (if z6 = (0 : Int32) then z2 else z8)), .val (.int (if z6 = (0 : Int32) then z8 else z4))] [(.int (own_6 (1 : Int32) (own_red (((if z2 = (0 : Int32) then (0 : Int32) else (-2147483648 : Int32)) ||| (if z4 = (0 : Int32) then (0 : Int32) else (1073741824 : Int32))) ||| (p2 &&& (1073741823 : Int32))) z6 z8)))]) _
  refine go1 (fun _ => XS.iload X19.here hx rfl (hb hby at_124) rfl) ?_
  show Go p.tables e below T19 (mkF m 126 #[.val (.int p1), .val (.int p2), .val (.int z2), .val (.int z4), .val (.int z6), .val (.int z8), .val (.int (p2 &&& (1073741823 : Int32))), .val (.ref b9), .val (.int (if z6 = (0 : Int32) then z2 else z8)), .val (.int (if z6 = (0 : Int32) then z8 else z4))] [(.int (if z6 = (0 : Int32) then z2 else z8)), (.int (own_6 (1 : Int32) (own_red (((if z2 = (0 : Int32) then (0 : Int32) else (-2147483648 : Int32)) ||| (if z4 = (0 : Int32) then (0 : Int32) else (1073741824 : Int32))) ||| (p2 &&& (1073741823 : Int32))) z6 z8)))]) _
  refine go1 (fun _ => XS.icmpNo X19.here hx rfl (hb hby at_126) rfl (teq (own_nodes z2 z4 z6 z8 p2 (own_b hz2) (own_b hz4) (own_b hz6) (own_b hz8)).1).2) ?_
  show Go p.tables e below T19 (mkF m 129 #[.val (.int p1), .val (.int p2), .val (.int z2), .val (.int z4), .val (.int z6), .val (.int z8), .val (.int (p2 &&& (1073741823 : Int32))), .val (.ref b9), .val (.int (if z6 = (0 : Int32) then z2 else z8)), .val (.int (if z6 = (0 : Int32) then z8 else z4))] []) _
  refine go1 (fun _ => XS.aload X19.here hx rfl (hb hby at_129) rfl rfl) ?_
  show Go p.tables e below T19 (mkF m 131 #[.val (.int p1), .val (.int p2), .val (.int z2), .val (.int z4), .val (.int z6), .val (.int z8), .val (.int (p2 &&& (1073741823 : Int32))), .val (.ref b9), .val (.int (if z6 = (0 : Int32) then z2 else z8)), .val (.int (if z6 = (0 : Int32) then z8 else z4))] [(.ref b9)]) _
  refine go1 (fun _ => XS.iconst X19.here hx rfl (hb hby at_131)) ?_
  show Go p.tables e below T19 (mkF m 132 #[.val (.int p1), .val (.int p2), .val (.int z2), .val (.int z4), .val (.int z6), .val (.int z8), .val (.int (p2 &&& (1073741823 : Int32))), .val (.ref b9), .val (.int (if z6 = (0 : Int32) then z2 else z8)), .val (.int (if z6 = (0 : Int32) then z8 else z4))] [(.int (0 : Int32)), (.ref b9)]) _
  obtain ⟨cq20, kq20, q20a, q20b, q20c⟩ := isOf hZ e19 G16_0
  obtain ⟨_, _, ⟨T20, L20, k20, n20⟩, -, X20, ⟨Lc20, hQ20, l20, y20, z20⟩, st20⟩ := X19.virtualBack hx (y := (⟨"com/example/carmine/carmine/Node", "isRed", "(Z)Z"⟩ : MethodName)) (z := (⟨"com/example/carmine/carmine/Node", "isRed", "(Z)Z"⟩ : MethodName)) hown (mvT hZ (hw _ (List.mem_of_getElem? (i := 34) rfl))) (mvT hZ (hw _ (List.mem_of_getElem? (i := 35) rfl))) (notFace_of_selects (args := #[]) (mvT hZ (hw _ (List.mem_of_getElem? (i := 37) rfl)))) (mvT hZ (hw _ (List.mem_of_getElem? (i := 37) rfl))) (mvT hZ (hw _ (List.mem_of_getElem? (i := 36) rfl))) (by decide) (backOf (W := 0) (rm6 l Z a0 hw [] b9 (0 : Int32) (own_red (((if z2 = (0 : Int32) then (0 : Int32) else (-2147483648 : Int32)) ||| (if z4 = (0 : Int32) then (0 : Int32) else (1073741824 : Int32))) ||| (p2 &&& (1073741823 : Int32))) z6 z8) T16.heap n0 (Nat.le_trans (Nat.le_trans (Nat.le_trans (Nat.le_trans (Nat.le_trans (Nat.le_trans Z0 E9.1) K10.1) K12.1) K14.1) K15.1) K16.1) G16_1) hZ (hw _ (List.mem_of_getElem? (i := 38) rfl)) (hw _ (List.mem_of_getElem? (i := 3) rfl)) (by decide) (by decide)) q20a q20c (g := (mkF m 132 #[.val (.int p1), .val (.int p2), .val (.int z2), .val (.int z4), .val (.int z6), .val (.int z8), .val (.int (p2 &&& (1073741823 : Int32))), .val (.ref b9), .val (.int (if z6 = (0 : Int32) then z2 else z8)), .val (.int (if z6 = (0 : Int32) then z8 else z4))] [(.int (0 : Int32)), (.ref b9)])) rfl (by rw [hml]; rfl) (Steps.refl _) (argsL := [(.int (0 : Int32))]) (rest := []) (lenOf pd0_4 rfl) rfl (by show 2 * 0 + _ ≤ _; exact Nat.le_of_eq rfl) (hb hby at_132) (fun _ _ => ⟨rfl, e19, (by decide : 3 + 0 ≤ _), (by decide : 7 + 0 ≤ _)⟩)
  dsimp only [Pt.U, Pt.locs, Pt.cells, Pt.slots] at X20 l20 y20 z20 st20 hQ20
  subst l20 y20 z20
  obtain ⟨rfl, N20q, e20⟩ := hQ20
  have N20 := Fr.app N19 N20q
  refine goT st20 ?_
  show Go p.tables e below T20 (mkF m 135 #[.val (.int p1), .val (.int p2), .val (.int z2), .val (.int z4), .val (.int z6), .val (.int z8), .val (.int (p2 &&& (1073741823 : Int32))), .val (.ref b9), .val (.int (if z6 = (0 : Int32) then z2 else z8)), .val (.int (if z6 = (0 : Int32) then z8 else z4))] [(.int (own_6 (0 : Int32) (own_red (((if z2 = (0 : Int32) then (0 : Int32) else (-2147483648 : Int32)) ||| (if z4 = (0 : Int32) then (0 : Int32) else (1073741824 : Int32))) ||| (p2 &&& (1073741823 : Int32))) z6 z8)))]) _
  refine go1 (fun _ => XS.iload X20.here hx rfl (hb hby at_135) rfl) ?_
  show Go p.tables e below T20 (mkF m 137 #[.val (.int p1), .val (.int p2), .val (.int z2), .val (.int z4), .val (.int z6), .val (.int z8), .val (.int (p2 &&& (1073741823 : Int32))), .val (.ref b9), .val (.int (if z6 = (0 : Int32) then z2 else z8)), .val (.int (if z6 = (0 : Int32) then z8 else z4))] [(.int (if z6 = (0 : Int32) then z8 else z4)), (.int (own_6 (0 : Int32) (own_red (((if z2 = (0 : Int32) then (0 : Int32) else (-2147483648 : Int32)) ||| (if z4 = (0 : Int32) then (0 : Int32) else (1073741824 : Int32))) ||| (p2 &&& (1073741823 : Int32))) z6 z8)))]) _
  refine go1 (fun _ => XS.icmpNo X20.here hx rfl (hb hby at_137) rfl (teq (own_nodes z2 z4 z6 z8 p2 (own_b hz2) (own_b hz4) (own_b hz6) (own_b hz8)).2.1).2) ?_
  show Go p.tables e below T20 (mkF m 140 #[.val (.int p1), .val (.int p2), .val (.int z2), .val (.int z4), .val (.int z6), .val (.int z8), .val (.int (p2 &&& (1073741823 : Int32))), .val (.ref b9), .val (.int (if z6 = (0 : Int32) then z2 else z8)), .val (.int (if z6 = (0 : Int32) then z8 else z4))] []) _
  refine go1 (fun _ => XS.aload X20.here hx rfl (hb hby at_140) rfl rfl) ?_
  show Go p.tables e below T20 (mkF m 142 #[.val (.int p1), .val (.int p2), .val (.int z2), .val (.int z4), .val (.int z6), .val (.int z8), .val (.int (p2 &&& (1073741823 : Int32))), .val (.ref b9), .val (.int (if z6 = (0 : Int32) then z2 else z8)), .val (.int (if z6 = (0 : Int32) then z8 else z4))] [(.ref b9)]) _
  obtain ⟨cq21, kq21, q21a, q21b, q21c⟩ := isOf hZ e20 G16_0
  obtain ⟨_, _, ⟨T21, L21, k21, n21⟩, -, X21, ⟨Lc21, hQ21, l21, y21, z21⟩, st21⟩ := X20.virtualBack hx (y := (⟨"com/example/carmine/carmine/Node", "size", "()I"⟩ : MethodName)) (z := (⟨"com/example/carmine/carmine/Node", "size", "()I"⟩ : MethodName)) hown (mvT hZ (hw _ (List.mem_of_getElem? (i := 40) rfl))) (mvT hZ (hw _ (List.mem_of_getElem? (i := 41) rfl))) (notFace_of_selects (args := #[]) (mvT hZ (hw _ (List.mem_of_getElem? (i := 43) rfl)))) (mvT hZ (hw _ (List.mem_of_getElem? (i := 43) rfl))) (mvT hZ (hw _ (List.mem_of_getElem? (i := 42) rfl))) (by decide) (backOf (W := 0) (rm7 l Z a0 hw [] b9 (own_red (((if z2 = (0 : Int32) then (0 : Int32) else (-2147483648 : Int32)) ||| (if z4 = (0 : Int32) then (0 : Int32) else (1073741824 : Int32))) ||| (p2 &&& (1073741823 : Int32))) z6 z8) T16.heap n0 (Nat.le_trans (Nat.le_trans (Nat.le_trans (Nat.le_trans (Nat.le_trans (Nat.le_trans Z0 E9.1) K10.1) K12.1) K14.1) K15.1) K16.1) G16_1) hZ (hw _ (List.mem_of_getElem? (i := 44) rfl)) (hw _ (List.mem_of_getElem? (i := 3) rfl)) (by decide) (by decide)) q21a q21c (g := (mkF m 142 #[.val (.int p1), .val (.int p2), .val (.int z2), .val (.int z4), .val (.int z6), .val (.int z8), .val (.int (p2 &&& (1073741823 : Int32))), .val (.ref b9), .val (.int (if z6 = (0 : Int32) then z2 else z8)), .val (.int (if z6 = (0 : Int32) then z8 else z4))] [(.ref b9)])) rfl (by rw [hml]; rfl) (Steps.refl _) (argsL := []) (rest := []) (lenOf pd0_5 rfl) rfl (by show 2 * 0 + _ ≤ _; exact Nat.le_of_eq rfl) (hb hby at_142) (fun _ _ => ⟨rfl, e20, (by decide : 3 + 0 ≤ _), (by decide : 7 + 0 ≤ _)⟩)
  dsimp only [Pt.U, Pt.locs, Pt.cells, Pt.slots] at X21 l21 y21 z21 st21 hQ21
  subst l21 y21 z21
  obtain ⟨rfl, N21q, e21⟩ := hQ21
  have N21 := Fr.app N20 N21q
  refine goT st21 ?_
  show Go p.tables e below T21 (mkF m 145 #[.val (.int p1), .val (.int p2), .val (.int z2), .val (.int z4), .val (.int z6), .val (.int z8), .val (.int (p2 &&& (1073741823 : Int32))), .val (.ref b9), .val (.int (if z6 = (0 : Int32) then z2 else z8)), .val (.int (if z6 = (0 : Int32) then z8 else z4))] [(.int ((own_red (((if z2 = (0 : Int32) then (0 : Int32) else (-2147483648 : Int32)) ||| (if z4 = (0 : Int32) then (0 : Int32) else (1073741824 : Int32))) ||| (p2 &&& (1073741823 : Int32))) z6 z8) &&& (1073741823 : Int32)))]) _
  refine go1 (fun _ => XS.iload X21.here hx rfl (hb hby at_145) rfl) ?_
  show Go p.tables e below T21 (mkF m 147 #[.val (.int p1), .val (.int p2), .val (.int z2), .val (.int z4), .val (.int z6), .val (.int z8), .val (.int (p2 &&& (1073741823 : Int32))), .val (.ref b9), .val (.int (if z6 = (0 : Int32) then z2 else z8)), .val (.int (if z6 = (0 : Int32) then z8 else z4))] [(.int (p2 &&& (1073741823 : Int32))), (.int ((own_red (((if z2 = (0 : Int32) then (0 : Int32) else (-2147483648 : Int32)) ||| (if z4 = (0 : Int32) then (0 : Int32) else (1073741824 : Int32))) ||| (p2 &&& (1073741823 : Int32))) z6 z8) &&& (1073741823 : Int32)))]) _
  refine go1 (fun _ => XS.icmpNo X21.here hx rfl (hb hby at_147) rfl (teq (own_nodes z2 z4 z6 z8 p2 (own_b hz2) (own_b hz4) (own_b hz6) (own_b hz8)).2.2).2) ?_
  show Go p.tables e below T21 (mkF m 150 #[.val (.int p1), .val (.int p2), .val (.int z2), .val (.int z4), .val (.int z6), .val (.int z8), .val (.int (p2 &&& (1073741823 : Int32))), .val (.ref b9), .val (.int (if z6 = (0 : Int32) then z2 else z8)), .val (.int (if z6 = (0 : Int32) then z8 else z4))] []) _
  refine go1 (fun _ => XS.iconst X21.here hx rfl (hb hby at_150)) ?_
  show Go p.tables e below T21 (mkF m 151 #[.val (.int p1), .val (.int p2), .val (.int z2), .val (.int z4), .val (.int z6), .val (.int z8), .val (.int (p2 &&& (1073741823 : Int32))), .val (.ref b9), .val (.int (if z6 = (0 : Int32) then z2 else z8)), .val (.int (if z6 = (0 : Int32) then z8 else z4))] [(.int (1 : Int32))]) _
  refine go1 (fun _ => XS.goto X21.here hx rfl (pc0 := 151) (pc' := 155) rfl (hb hby at_151) (by decide) (by decide)) ?_
  show Go p.tables e below T21 (mkF m 155 #[.val (.int p1), .val (.int p2), .val (.int z2), .val (.int z4), .val (.int z6), .val (.int z8), .val (.int (p2 &&& (1073741823 : Int32))), .val (.ref b9), .val (.int (if z6 = (0 : Int32) then z2 else z8)), .val (.int (if z6 = (0 : Int32) then z8 else z4))] [(.int (1 : Int32))]) _
  refine goR X21 (BodyLoose.notSynchronized Bd) (v := (some (.int (1 : Int32)))) (fun h => by rw [Bd.returns] at h; cases h) (Q0 Z p1 p2 a_cache h0 n0) (fun fs hr => retN X21 hx (t := .boolean) Bd.returns (by simp) (hb hby at_155) hr) (by decide) (by decide) ?_
  show Q0 Z p1 p2 a_cache h0 n0 _ T21.heap _
  rw [e21]
  exact ⟨rfl, N21⟩
set_option maxRecDepth 65536 in
set_option maxHeartbeats 40000000 in
theorem comes_1 {Post : Tables → Env → Array Value → State → Outcome → State → Prop} (hpost : ∀ tb e args s v u, (limb_1_1.after args s (.returned v) u = true ∧ limb_1_2.after args s (.returned v) u = true ∧ True) → FrameEnd s (.returned v) u (Jvm.fieldLocs frame_1_writes args s ++ Jvm.arrayLocs frame_1_arrays args s ++ Jvm.staticLocs frame_1_statics s) 16 128 → Post tb e args s (.returned v) u) :
    ArmFor flags0 classFile x code maxLocals ret World_1 tables_1 room_1 Calls_1 rest_1 Pre_1 Post := by
  intro l hfl _ _ p e ha hc hk s m args below hf hA hF happ hP
  obtain ⟨hcalls, hrest, hpre⟩ := hP
  obtain ⟨-, -, -, hnamed, -, -, -, hat⟩ := (Spec.applies_iff hf).mp happ
  obtain ⟨hg, hn⟩ := and_e (Cond.before_iff.mp (show (Jvm.Cond.and given_1 narrow_1).before args s = true from hpre))
  obtain ⟨gc, q0⟩ := and_e hg
  obtain ⟨ga0, q1⟩ := and_e q0
  have ga1 := q1
  obtain ⟨w0, w1, rfl⟩ : ∃ w0 w1 : Value, args = #[w0, w1] := by
    have hs : args.size = 2 := by simpa [Cond.value, given_1] using gc
    obtain ⟨L⟩ := args
    match L, hs with
    | [w0, w1], _ => exact ⟨w0, w1, rfl⟩
  have hw := fun d (hd : d ∈ tables_1) => atoms_spec (ws := Jvm.Cond.code x code maxLocals ret :: tables_1) hat d (List.mem_cons_of_mem _ hd)
  have hfit : Fit s := fun {y c} hc i hi => by
    obtain ⟨ha, rfl⟩ := Array.getElem?_eq_some_iff.mp hc
    have q := List.all_eq_true.mp ((Array.all_eq_true_iff_forall_mem.mp hF) _ (Array.getElem_mem ha)) i (List.mem_range.mpr hi)
    simpa [Array.getElem?_eq_getElem hi] using q
  obtain ⟨hsets, hown0⟩ := atoms_of _ (rest_1_c_eq ▸ (show rest_1_c.before _ s = true from hrest))
  obtain ⟨i0, ei0⟩ := is_v ga0
  obtain rfl : w0 = (.int i0) := Option.some.inj ei0
  obtain ⟨i1, ei1⟩ := is_v ga1
  obtain rfl : w1 = (.int i1) := Option.some.inj ei1
  obtain ⟨a_cache, ev_a_cache⟩ := exa_v (Cond.before_iff.mp (hsets _ (List.mem_of_getElem? (i := 5) rfl)))
  have S_a_cache := Sta.start ev_a_cache (Or.inr ⟨(hw _ (List.mem_of_getElem? (i := 9) rfl)), (hsets _ (List.mem_of_getElem? (i := 2) rfl))⟩)
  have ES_a_cache := Exa.start ev_a_cache (Cond.before_iff.mp (hsets _ (List.mem_of_getElem? (i := 5) rfl)))
  have S_a_high := Sta.start (eqv_i (Term.int_eval (127 : Int32)) (Cond.before_iff.mp (hsets _ (List.mem_of_getElem? (i := 3) rfl)))) (Or.inl (hsets _ (List.mem_of_getElem? (i := 1) rfl)))
  have BX_a_cache : ∃ cB : Cell, Bxs s a_cache cB "java/lang/Integer" "I" (256 : Int32) (fun j => .int (j - (128 : Int32))) := by
    obtain ⟨cB, ArB⟩ := Arr.start ev_a_cache (Cond.before_iff.mp (hsets _ (List.mem_of_getElem? (i := 4) rfl)))
    have q := lenS ev_a_cache ArB (eqv_i (Term.int_eval (256 : Int32)) (Cond.before_iff.mp (hsets _ (List.mem_of_getElem? (i := 6) rfl))))
    refine ⟨cB, Bxs.start (fun idx => ?_) ArB q.1 q.2.1 (by decide) (Cond.before_iff.mp (hsets _ (List.mem_of_getElem? (i := 7) rfl))) (fun X j hj hv => ?_)⟩
    · have := ev_a_cache; simpa [Term.eval] using this
    · exact eqv_i (show (Term.sub (.index 0) (.int (128 : Int32))).eval _ s none [j.toNatClampNeg] s = some (.int (j - (128 : Int32))) from Term.sub_int (idx_at hj) (Term.int_eval (128 : Int32))) hv
  obtain ⟨n, o, h1, h2, h3, _, L, rfl, ⟨rfl, N⟩, hq⟩ := rm0 l s _ hw tables_1 i0 i1 a_cache s.heap s.heap.size (Nat.le_refl _) (Old.start s) S_a_cache ES_a_cache S_a_high BX_a_cache p e ha hc hk s m _ below hf ((Spec.applies_iff_loose hf).mp happ).1 ⟨rfl, State.Warmed39.refl s, rfl⟩ trivial
  refine ⟨n, _, h1, h2, h3, hpost _ _ _ _ _ _ ⟨Cond.after_iff.mpr rfl, Cond.after_iff.mpr (eq_i res_at (Term.int_eval (1)) rfl), trivial⟩ ⟨hq.1, hq.2.1, (hq.2.2.sift fun y hy => Or.inr (N y hy)).mono (by decide) (by decide)⟩⟩
theorem main_1_1 : Claimed_1_1 := comes_1 fun _ _ _ _ _ _ h hF => ⟨h.1, hF⟩
theorem main_1_2 : Claimed_1_2 := comes_1 fun _ _ _ _ _ _ h hF => ⟨h.2.1, hF⟩
end Jvm.Pilot.@@N@@
namespace Jvm.Pilot.@@N@@
open Jvm Jvm.ClassFile Sem Op Lib Jvm.Free Jvm.Stand Jvm.Pilot.@@N@@.Jvm.D
/-! MADE BY PROGRAM (witnessworld.py) out of the Statement's table words and the real class files: 17 classes; the members and pool entries that the words name. The judged class is class 1, her method 1. -/
namespace start1
open Jvm.ClassFile
def u (s : String) : CpInfo := .utf8 (stringToUtf16 s)
/-- a pool by its gaps: so many unusable entries, then the entry; so many at the end -/
def gap : Nat → List CpInfo → List CpInfo
  | 0, r => r
  | n + 1, r => .unusable :: gap n r
def poolList (es : List (Nat × CpInfo)) (last : Nat) : List CpInfo := es.foldr (fun e r => gap e.1 (e.2 :: r)) (gap last [])
def pool (es : List (Nat × CpInfo)) (last : Nat) : Array CpInfo := ⟨poolList es last⟩
def fileOf (pool : Array CpInfo) (this : Nat) (attrs : Array Attribute := #[]) (ms : Array MethodInfo := #[]) (fl : Nat := 33) (sup : Nat := 0) (ifs : Array Nat := #[]) (fds : Array FieldInfo := #[]) : ClassFile where
  minorVersion := 0
  majorVersion := 65
  constantPool := pool
  accessFlags := fl
  thisClass := this
  superClass := sup
  interfaces := ifs
  fields := fds
  methods := ms
  attributes := attrs
def plain (name : String) (sup : Option ClassId) : Class where
  name := name
  kind := .ordinary
  loader := none
  accessFlags := 33
  super := sup
  interfaces := #[]
  cf := none
  fields := #[]
  methods := #[]
  instanceTypes := #[]
  staticTypes := #[]
  resolved := #[]
  callSites := []
  init := .initialized
  statics := none
  mirror := none

def pool0 : Array CpInfo := pool [(5, u "<init>"), (0, u "()V"), (1, .class_ 10), (1, u "java/lang/Object")] 113

def k0c0 : Code := { maxStack := 0, maxLocals := 1, code := object_method_1_code, exceptionTable := #[], attributes := #[] }
def k0m0 : Method := { name := "<init>", desc := "()V", sig := { parameters := [], returnType := none }, accessFlags := 1, code := some k0c0 }
/-- java/lang/Object -/
def k0 : Class := { plain "java/lang/Object" none with
  accessFlags := 33
  interfaces := #[]
  cf := some (fileOf pool0 8 #[] #[{ accessFlags := 1, nameIndex := 5, descriptorIndex := 6, attributes := #[] }] 33 0 #[] #[])
  fields := #[]
  methods := #[k0m0]
  instanceTypes := #[]
  staticTypes := #[]
  resolved := Array.replicate 124 none
  statics := none }

def pool1 : Array CpInfo := pool [(2, .class_ 4), (1, u "java/lang/Object"), (0, u "<init>"), (0, u "()V"), (0, .integer 1073741823), (0, .class_ 9), (0, u "com/example/carmine/carmine/Node"), (0, .methodref 11 12), (0, .class_ 13), (0, .nameAndType 14 15), (0, u "java/lang/Integer"), (0, u "valueOf"), (0, u "(I)Ljava/lang/Integer;"), (0, .methodref 8 17), (0, .nameAndType 5 18), (0, u "(Ljava/lang/Object;Ljava/lang/Object;)V"), (0, .methodref 8 20), (0, .nameAndType 21 22), (0, u "setColoursAndSize"), (0, u "(ZZI)V"), (0, .methodref 8 24), (0, .nameAndType 25 26), (0, u "setRed"), (0, u "(ZZ)V"), (0, .methodref 8 28), (0, .nameAndType 29 30), (0, u "isRed"), (0, u "(Z)Z"), (0, .methodref 8 32), (0, .nameAndType 33 34), (0, u "size"), (0, u "()I"), (0, .class_ 36), (0, u "com/example/carmine/carmine/NodeSetRedPinLaw"), (2, u "law"), (0, u "(II)Z")] 3

def k1m0 : Method := { name := "<init>", desc := "()V", sig := { parameters := [], returnType := none }, accessFlags := 1, code := none }
def k1c1 : Code := { maxStack := 4, maxLocals := 10, code := code, exceptionTable := #[], attributes := #[] }
def k1m1 : Method := { name := "law", desc := "(II)Z", sig := { parameters := [.int, .int], returnType := some .boolean }, accessFlags := 9, code := some k1c1 }
/-- com/example/carmine/carmine/NodeSetRedPinLaw -/
def k1 : Class := { plain "com/example/carmine/carmine/NodeSetRedPinLaw" (some 0) with
  accessFlags := 49
  interfaces := #[]
  cf := some (fileOf pool1 35 #[] #[{ accessFlags := 1, nameIndex := 5, descriptorIndex := 6, attributes := #[] }, { accessFlags := 9, nameIndex := 39, descriptorIndex := 40, attributes := #[] }] 49 2 #[] #[])
  fields := #[]
  methods := #[k1m0, k1m1]
  instanceTypes := #[]
  staticTypes := #[]
  resolved := Array.replicate 44 none
  statics := none }

def pool2 : Array CpInfo := pool [(23, .class_ 25), (1, u "java/util/Map$Entry"), (6, .class_ 34), (1, u "java/util/Map"), (34, .class_ 70), (0, u "java/lang/Object")] 107

/-- java/util/Map$Entry -/
def k2 : Class := { plain "java/util/Map$Entry" (some 0) with
  accessFlags := 1537
  interfaces := #[]
  cf := some (fileOf pool2 23 #[.nestHost 32] #[] 1537 69 #[] #[])
  fields := #[]
  methods := #[]
  instanceTypes := #[]
  staticTypes := #[]
  resolved := Array.replicate 178 none
  statics := none }

def pool3 : Array CpInfo := pool [(1, .methodref 2 3), (0, .class_ 4), (0, .nameAndType 5 6), (0, u "java/lang/Object"), (0, u "<init>"), (0, u "()V"), (0, .fieldref 8 9), (0, .class_ 10), (0, .nameAndType 11 12), (0, u "com/example/carmine/carmine/Node"), (0, u "key"), (0, u "Ljava/lang/Object;"), (0, .fieldref 8 14), (0, .nameAndType 15 12), (0, u "value"), (0, .fieldref 8 17), (0, .nameAndType 18 19), (0, u "sizeAndColours"), (0, u "I"), (2, u "left"), (0, u "Lcom/example/carmine/carmine/Node;"), (2, u "right"), (6, u "setRed"), (0, u "(ZZ)V"), (0, .integer 2147483648), (0, .integer 1073741824), (0, .integer 1073741823), (2, u "size"), (0, u "()I"), (1, .class_ 44), (0, u "java/util/Map$Entry"), (27, u "MAX_SIZE"), (1, u "LEFT_RED"), (0, u "RIGHT_RED"), (4, u "(Ljava/lang/Object;Ljava/lang/Object;)V"), (12, u "isRed"), (0, u "(Z)Z"), (4, u "setColoursAndSize"), (0, u "(ZZI)V")] 32

def k3c0 : Code := { maxStack := 2, maxLocals := 3, code := prog_6_method_1_code, exceptionTable := #[], attributes := #[] }
def k3m0 : Method := { name := "<init>", desc := "(Ljava/lang/Object;Ljava/lang/Object;)V", sig := { parameters := [(.object "java/lang/Object"), (.object "java/lang/Object")], returnType := none }, accessFlags := 0, code := some k3c0 }
def k3c1 : Code := { maxStack := 2, maxLocals := 2, code := prog_6_method_6_code, exceptionTable := #[], attributes := #[] }
def k3m1 : Method := { name := "isRed", desc := "(Z)Z", sig := { parameters := [.boolean], returnType := some .boolean }, accessFlags := 0, code := some k3c1 }
def k3c2 : Code := { maxStack := 4, maxLocals := 4, code := prog_6_method_7_code, exceptionTable := #[], attributes := #[] }
def k3m2 : Method := { name := "setRed", desc := "(ZZ)V", sig := { parameters := [.boolean, .boolean], returnType := none }, accessFlags := 0, code := some k3c2 }
def k3c3 : Code := { maxStack := 2, maxLocals := 1, code := prog_6_method_8_code, exceptionTable := #[], attributes := #[] }
def k3m3 : Method := { name := "size", desc := "()I", sig := { parameters := [], returnType := some .int }, accessFlags := 0, code := some k3c3 }
def k3c4 : Code := { maxStack := 3, maxLocals := 4, code := prog_6_method_11_code, exceptionTable := #[], attributes := #[] }
def k3m4 : Method := { name := "setColoursAndSize", desc := "(ZZI)V", sig := { parameters := [.boolean, .boolean, .int], returnType := none }, accessFlags := 0, code := some k3c4 }
/-- com/example/carmine/carmine/Node -/
def k3 : Class := { plain "com/example/carmine/carmine/Node" (some 0) with
  accessFlags := 32
  interfaces := #[2]
  cf := some (fileOf pool3 8 #[] #[{ accessFlags := 0, nameIndex := 5, descriptorIndex := 80, attributes := #[] }, { accessFlags := 0, nameIndex := 93, descriptorIndex := 94, attributes := #[] }, { accessFlags := 0, nameIndex := 33, descriptorIndex := 34, attributes := #[] }, { accessFlags := 0, nameIndex := 40, descriptorIndex := 41, attributes := #[] }, { accessFlags := 0, nameIndex := 99, descriptorIndex := 100, attributes := #[] }] 32 2 #[43] #[{ accessFlags := 24, nameIndex := 72, descriptorIndex := 19, attributes := #[] }, { accessFlags := 26, nameIndex := 74, descriptorIndex := 19, attributes := #[] }, { accessFlags := 26, nameIndex := 75, descriptorIndex := 19, attributes := #[] }, { accessFlags := 0, nameIndex := 11, descriptorIndex := 12, attributes := #[] }, { accessFlags := 0, nameIndex := 15, descriptorIndex := 12, attributes := #[] }, { accessFlags := 0, nameIndex := 22, descriptorIndex := 23, attributes := #[] }, { accessFlags := 0, nameIndex := 26, descriptorIndex := 23, attributes := #[] }, { accessFlags := 2, nameIndex := 18, descriptorIndex := 19, attributes := #[] }])
  fields := #[{ name := "MAX_SIZE", type := .int, accessFlags := 24, slot := 0, constantValue := 0 }, { name := "LEFT_RED", type := .int, accessFlags := 26, slot := 1, constantValue := 0 }, { name := "RIGHT_RED", type := .int, accessFlags := 26, slot := 2, constantValue := 0 }, { name := "key", type := (.object "java/lang/Object"), accessFlags := 0, slot := 0, constantValue := 0 }, { name := "value", type := (.object "java/lang/Object"), accessFlags := 0, slot := 1, constantValue := 0 }, { name := "left", type := (.object "com/example/carmine/carmine/Node"), accessFlags := 0, slot := 2, constantValue := 0 }, { name := "right", type := (.object "com/example/carmine/carmine/Node"), accessFlags := 0, slot := 3, constantValue := 0 }, { name := "sizeAndColours", type := .int, accessFlags := 2, slot := 4, constantValue := 0 }]
  methods := #[k3m0, k3m1, k3m2, k3m3, k3m4]
  instanceTypes := #[(.object "java/lang/Object"), (.object "java/lang/Object"), (.object "com/example/carmine/carmine/Node"), (.object "com/example/carmine/carmine/Node"), .int]
  staticTypes := #[.int, .int, .int]
  resolved := Array.replicate 133 none
  statics := none }

def pool4 : Array CpInfo := pool [(1, .class_ 2), (0, u "java/io/Serializable"), (0, .class_ 4), (0, u "java/lang/Object")] 2

/-- java/io/Serializable -/
def k4 : Class := { plain "java/io/Serializable" (some 0) with
  accessFlags := 1537
  interfaces := #[]
  cf := some (fileOf pool4 1 #[] #[] 1537 3 #[] #[])
  fields := #[]
  methods := #[]
  instanceTypes := #[]
  staticTypes := #[]
  resolved := Array.replicate 7 none
  statics := none }

def pool5 : Array CpInfo := pool [(1, .methodref 2 3), (0, .class_ 4), (0, .nameAndType 5 6), (0, u "java/lang/Object"), (0, u "<init>"), (0, u "()V"), (1, .class_ 10), (1, u "java/lang/Number"), (2, .class_ 14), (0, u "java/io/Serializable"), (0, u "serialVersionUID"), (0, u "J")] 20

def k5c0 : Code := { maxStack := 1, maxLocals := 1, code := jdk_18_method_1_code, exceptionTable := #[], attributes := #[] }
def k5m0 : Method := { name := "<init>", desc := "()V", sig := { parameters := [], returnType := none }, accessFlags := 1, code := some k5c0 }
/-- java/lang/Number -/
def k5 : Class := { plain "java/lang/Number" (some 0) with
  accessFlags := 1057
  interfaces := #[4]
  cf := some (fileOf pool5 8 #[] #[{ accessFlags := 1, nameIndex := 5, descriptorIndex := 6, attributes := #[] }] 1057 2 #[13] #[{ accessFlags := 26, nameIndex := 15, descriptorIndex := 16, attributes := #[] }])
  fields := #[{ name := "serialVersionUID", type := .long, accessFlags := 26, slot := 0, constantValue := 0 }]
  methods := #[k5m0]
  instanceTypes := #[]
  staticTypes := #[.long]
  resolved := Array.replicate 37 none
  statics := none }

def pool6 : Array CpInfo := pool [(1, .class_ 2), (0, u "java/lang/Comparable"), (0, .class_ 4), (0, u "java/lang/Object")] 7

/-- java/lang/Comparable -/
def k6 : Class := { plain "java/lang/Comparable" (some 0) with
  accessFlags := 1537
  interfaces := #[]
  cf := some (fileOf pool6 1 #[] #[] 1537 3 #[] #[])
  fields := #[]
  methods := #[]
  instanceTypes := #[]
  staticTypes := #[]
  resolved := Array.replicate 12 none
  statics := none }

def pool7 : Array CpInfo := pool [(1, .class_ 2), (0, u "java/lang/constant/Constable"), (0, .class_ 4), (0, u "java/lang/Object")] 6

/-- java/lang/constant/Constable -/
def k7 : Class := { plain "java/lang/constant/Constable" (some 0) with
  accessFlags := 1537
  interfaces := #[]
  cf := some (fileOf pool7 1 #[] #[] 1537 3 #[] #[])
  fields := #[]
  methods := #[]
  instanceTypes := #[]
  staticTypes := #[]
  resolved := Array.replicate 11 none
  statics := none }

def pool8 : Array CpInfo := pool [(1, .class_ 2), (0, u "java/lang/constant/ConstantDesc"), (0, .class_ 4), (0, u "java/lang/Object")] 32

/-- java/lang/constant/ConstantDesc -/
def k8 : Class := { plain "java/lang/constant/ConstantDesc" (some 0) with
  accessFlags := 1537
  interfaces := #[]
  cf := some (fileOf pool8 1 #[] #[] 1537 3 #[] #[])
  fields := #[]
  methods := #[]
  instanceTypes := #[]
  staticTypes := #[]
  resolved := Array.replicate 37 none
  statics := none }

def pool9 : Array CpInfo := pool [(1, .class_ 2), (0, u "java/lang/Integer"), (16, u "digits"), (0, u "[C"), (46, u "<init>"), (17, u "DigitOnes"), (0, u "[B"), (2, u "DigitTens"), (10, .nameAndType 67 101), (0, u "()V"), (85, u "valueOf"), (0, u "(I)Ljava/lang/Integer;"), (0, .class_ 190), (0, u "java/lang/Integer$IntegerCache"), (0, .fieldref 189 192), (0, .nameAndType 193 194), (0, u "high"), (0, u "I"), (0, .fieldref 189 196), (0, .nameAndType 197 198), (0, u "cache"), (0, u "[Ljava/lang/Integer;"), (0, .methodref 1 200), (0, .nameAndType 67 201), (0, u "(I)V"), (0, .methodref 203 100), (0, .class_ 204), (0, u "java/lang/Number"), (0, .fieldref 1 206), (0, .nameAndType 207 194), (0, u "value"), (94, u "TYPE"), (0, u "Ljava/lang/Class;"), (0, .class_ 305), (0, u "java/lang/Comparable"), (0, .class_ 307), (0, u "java/lang/constant/Constable"), (0, .class_ 309), (0, u "java/lang/constant/ConstantDesc"), (0, u "MIN_VALUE"), (1, u "MAX_VALUE"), (3, u "SIZE"), (1, u "BYTES"), (1, u "serialVersionUID"), (0, u "J")] 131

def k9c0 : Code := { maxStack := 3, maxLocals := 1, code := jdk_33_method_22_code, exceptionTable := #[], attributes := #[] }
def k9m0 : Method := { name := "valueOf", desc := "(I)Ljava/lang/Integer;", sig := { parameters := [.int], returnType := some (.object "java/lang/Integer") }, accessFlags := 9, code := some k9c0 }
def k9c1 : Code := { maxStack := 2, maxLocals := 2, code := jdk_33_method_23_code, exceptionTable := #[], attributes := #[] }
def k9m1 : Method := { name := "<init>", desc := "(I)V", sig := { parameters := [.int], returnType := none }, accessFlags := 1, code := some k9c1 }
/-- java/lang/Integer -/
def k9 : Class := { plain "java/lang/Integer" (some 5) with
  accessFlags := 49
  interfaces := #[6, 7, 8]
  cf := some (fileOf pool9 1 #[.nestMembers #[189]] #[{ accessFlags := 9, nameIndex := 187, descriptorIndex := 188, attributes := #[] }, { accessFlags := 1, nameIndex := 67, descriptorIndex := 201, attributes := #[] }] 49 203 #[304, 306, 308] #[{ accessFlags := 25, nameIndex := 310, descriptorIndex := 194, attributes := #[] }, { accessFlags := 25, nameIndex := 312, descriptorIndex := 194, attributes := #[] }, { accessFlags := 25, nameIndex := 302, descriptorIndex := 303, attributes := #[] }, { accessFlags := 24, nameIndex := 19, descriptorIndex := 20, attributes := #[] }, { accessFlags := 24, nameIndex := 89, descriptorIndex := 86, attributes := #[] }, { accessFlags := 24, nameIndex := 85, descriptorIndex := 86, attributes := #[] }, { accessFlags := 18, nameIndex := 207, descriptorIndex := 194, attributes := #[] }, { accessFlags := 25, nameIndex := 316, descriptorIndex := 194, attributes := #[] }, { accessFlags := 25, nameIndex := 318, descriptorIndex := 194, attributes := #[] }, { accessFlags := 26, nameIndex := 320, descriptorIndex := 321, attributes := #[] }])
  fields := #[{ name := "MIN_VALUE", type := .int, accessFlags := 25, slot := 0, constantValue := 0 }, { name := "MAX_VALUE", type := .int, accessFlags := 25, slot := 1, constantValue := 0 }, { name := "TYPE", type := (.object "java/lang/Class"), accessFlags := 25, slot := 2, constantValue := 0 }, { name := "digits", type := (.array .char), accessFlags := 24, slot := 3, constantValue := 0 }, { name := "DigitTens", type := (.array .byte), accessFlags := 24, slot := 4, constantValue := 0 }, { name := "DigitOnes", type := (.array .byte), accessFlags := 24, slot := 5, constantValue := 0 }, { name := "value", type := .int, accessFlags := 18, slot := 0, constantValue := 0 }, { name := "SIZE", type := .int, accessFlags := 25, slot := 6, constantValue := 0 }, { name := "BYTES", type := .int, accessFlags := 25, slot := 7, constantValue := 0 }, { name := "serialVersionUID", type := .long, accessFlags := 26, slot := 8, constantValue := 0 }]
  methods := #[k9m0, k9m1]
  instanceTypes := #[.int]
  staticTypes := #[.int, .int, (.object "java/lang/Class"), (.array .char), (.array .byte), (.array .byte), .int, .int, .long]
  resolved := Array.replicate 453 none
  statics := none }

def pool10 : Array CpInfo := pool [(2, .class_ 4), (1, u "java/lang/Object"), (0, u "<init>"), (0, u "()V"), (0, .class_ 8), (0, u "java/lang/Integer"), (7, .class_ 18), (1, u "java/lang/Integer$IntegerCache"), (0, u "$assertionsDisabled"), (0, u "Z"), (26, u "high"), (0, u "I"), (8, u "archivedCache"), (0, u "[Ljava/lang/Integer;"), (12, u "cache"), (0, u "low")] 27

def k10m0 : Method := { name := "<init>", desc := "()V", sig := { parameters := [], returnType := none }, accessFlags := 2, code := none }
/-- java/lang/Integer$IntegerCache -/
def k10 : Class := { plain "java/lang/Integer$IntegerCache" (some 0) with
  accessFlags := 48
  interfaces := #[]
  cf := some (fileOf pool10 16 #[.nestHost 7] #[{ accessFlags := 2, nameIndex := 5, descriptorIndex := 6, attributes := #[] }] 48 2 #[] #[{ accessFlags := 24, nameIndex := 72, descriptorIndex := 48, attributes := #[] }, { accessFlags := 24, nameIndex := 47, descriptorIndex := 48, attributes := #[] }, { accessFlags := 24, nameIndex := 71, descriptorIndex := 58, attributes := #[] }, { accessFlags := 8, nameIndex := 57, descriptorIndex := 58, attributes := #[] }, { accessFlags := 4120, nameIndex := 19, descriptorIndex := 20, attributes := #[] }])
  fields := #[{ name := "low", type := .int, accessFlags := 24, slot := 0, constantValue := 0 }, { name := "high", type := .int, accessFlags := 24, slot := 1, constantValue := 0 }, { name := "cache", type := (.array (.object "java/lang/Integer")), accessFlags := 24, slot := 2, constantValue := 0 }, { name := "archivedCache", type := (.array (.object "java/lang/Integer")), accessFlags := 8, slot := 3, constantValue := 0 }, { name := "$assertionsDisabled", type := .boolean, accessFlags := 4120, slot := 4, constantValue := 0 }]
  methods := #[k10m0]
  instanceTypes := #[]
  staticTypes := #[.int, .int, (.array (.object "java/lang/Integer")), (.array (.object "java/lang/Integer")), .boolean]
  resolved := Array.replicate 100 none
  statics := some 0 }

def pool11 : Array CpInfo := pool [(1, u "java/lang/Cloneable"), (0, .class_ 1), (0, u "java/lang/Object"), (0, .class_ 3)] 3

/-- java/lang/Cloneable -/
def k11 : Class := { plain "java/lang/Cloneable" (some 0) with
  accessFlags := 1537
  interfaces := #[]
  cf := some (fileOf pool11 2 #[] #[] 1537 4 #[] #[])
  fields := #[]
  methods := #[]
  instanceTypes := #[]
  staticTypes := #[]
  resolved := Array.replicate 8 none
  statics := none }

/-- the primitive byte -/
def k12 : Class := { plain "byte" none with kind := .primitive 'B', accessFlags := 0x411 }
/-- [B -/
def k13 : Class := { plain "[B" (some 0) with kind := .array 12 .byte, interfaces := #[11, 4], accessFlags := 1041 }

/-- the primitive int -/
def k14 : Class := { plain "int" none with kind := .primitive 'I', accessFlags := 0x411 }
/-- [I -/
def k15 : Class := { plain "[I" (some 0) with kind := .array 14 .int, interfaces := #[11, 4], accessFlags := 1041 }

/-- [Ljava/lang/Integer; -/
def k16 : Class := { plain "[Ljava/lang/Integer;" (some 0) with kind := .array 9 (.object "java/lang/Integer"), interfaces := #[11, 4], accessFlags := 1041 }

def heap : Heap := #[{ cls := 10, slots := #[.int 0, .int 127, .ref 1, .null, .int 0], vm := .statics 10 },
  { cls := 16, slots := #[.ref 2, .ref 3, .ref 4, .ref 5, .ref 6, .ref 7, .ref 8, .ref 9, .ref 10, .ref 11, .ref 12, .ref 13, .ref 14, .ref 15, .ref 16, .ref 17, .ref 18, .ref 19, .ref 20, .ref 21, .ref 22, .ref 23, .ref 24, .ref 25, .ref 26, .ref 27, .ref 28, .ref 29, .ref 30, .ref 31, .ref 32, .ref 33, .ref 34, .ref 35, .ref 36, .ref 37, .ref 38, .ref 39, .ref 40, .ref 41, .ref 42, .ref 43, .ref 44, .ref 45, .ref 46, .ref 47, .ref 48, .ref 49, .ref 50, .ref 51, .ref 52, .ref 53, .ref 54, .ref 55, .ref 56, .ref 57, .ref 58, .ref 59, .ref 60, .ref 61, .ref 62, .ref 63, .ref 64, .ref 65, .ref 66, .ref 67, .ref 68, .ref 69, .ref 70, .ref 71, .ref 72, .ref 73, .ref 74, .ref 75, .ref 76, .ref 77, .ref 78, .ref 79, .ref 80, .ref 81, .ref 82, .ref 83, .ref 84, .ref 85, .ref 86, .ref 87, .ref 88, .ref 89, .ref 90, .ref 91, .ref 92, .ref 93, .ref 94, .ref 95, .ref 96, .ref 97, .ref 98, .ref 99, .ref 100, .ref 101, .ref 102, .ref 103, .ref 104, .ref 105, .ref 106, .ref 107, .ref 108, .ref 109, .ref 110, .ref 111, .ref 112, .ref 113, .ref 114, .ref 115, .ref 116, .ref 117, .ref 118, .ref 119, .ref 120, .ref 121, .ref 122, .ref 123, .ref 124, .ref 125, .ref 126, .ref 127, .ref 128, .ref 129, .ref 130, .ref 131, .ref 132, .ref 133, .ref 134, .ref 135, .ref 136, .ref 137, .ref 138, .ref 139, .ref 140, .ref 141, .ref 142, .ref 143, .ref 144, .ref 145, .ref 146, .ref 147, .ref 148, .ref 149, .ref 150, .ref 151, .ref 152, .ref 153, .ref 154, .ref 155, .ref 156, .ref 157, .ref 158, .ref 159, .ref 160, .ref 161, .ref 162, .ref 163, .ref 164, .ref 165, .ref 166, .ref 167, .ref 168, .ref 169, .ref 170, .ref 171, .ref 172, .ref 173, .ref 174, .ref 175, .ref 176, .ref 177, .ref 178, .ref 179, .ref 180, .ref 181, .ref 182, .ref 183, .ref 184, .ref 185, .ref 186, .ref 187, .ref 188, .ref 189, .ref 190, .ref 191, .ref 192, .ref 193, .ref 194, .ref 195, .ref 196, .ref 197, .ref 198, .ref 199, .ref 200, .ref 201, .ref 202, .ref 203, .ref 204, .ref 205, .ref 206, .ref 207, .ref 208, .ref 209, .ref 210, .ref 211, .ref 212, .ref 213, .ref 214, .ref 215, .ref 216, .ref 217, .ref 218, .ref 219, .ref 220, .ref 221, .ref 222, .ref 223, .ref 224, .ref 225, .ref 226, .ref 227, .ref 228, .ref 229, .ref 230, .ref 231, .ref 232, .ref 233, .ref 234, .ref 235, .ref 236, .ref 237, .ref 238, .ref 239, .ref 240, .ref 241, .ref 242, .ref 243, .ref 244, .ref 245, .ref 246, .ref 247, .ref 248, .ref 249, .ref 250, .ref 251, .ref 252, .ref 253, .ref 254, .ref 255, .ref 256, .ref 257], vm := .none },
  { cls := 9, slots := #[.int (-128)], vm := .none },
  { cls := 9, slots := #[.int (-127)], vm := .none },
  { cls := 9, slots := #[.int (-126)], vm := .none },
  { cls := 9, slots := #[.int (-125)], vm := .none },
  { cls := 9, slots := #[.int (-124)], vm := .none },
  { cls := 9, slots := #[.int (-123)], vm := .none },
  { cls := 9, slots := #[.int (-122)], vm := .none },
  { cls := 9, slots := #[.int (-121)], vm := .none },
  { cls := 9, slots := #[.int (-120)], vm := .none },
  { cls := 9, slots := #[.int (-119)], vm := .none },
  { cls := 9, slots := #[.int (-118)], vm := .none },
  { cls := 9, slots := #[.int (-117)], vm := .none },
  { cls := 9, slots := #[.int (-116)], vm := .none },
  { cls := 9, slots := #[.int (-115)], vm := .none },
  { cls := 9, slots := #[.int (-114)], vm := .none },
  { cls := 9, slots := #[.int (-113)], vm := .none },
  { cls := 9, slots := #[.int (-112)], vm := .none },
  { cls := 9, slots := #[.int (-111)], vm := .none },
  { cls := 9, slots := #[.int (-110)], vm := .none },
  { cls := 9, slots := #[.int (-109)], vm := .none },
  { cls := 9, slots := #[.int (-108)], vm := .none },
  { cls := 9, slots := #[.int (-107)], vm := .none },
  { cls := 9, slots := #[.int (-106)], vm := .none },
  { cls := 9, slots := #[.int (-105)], vm := .none },
  { cls := 9, slots := #[.int (-104)], vm := .none },
  { cls := 9, slots := #[.int (-103)], vm := .none },
  { cls := 9, slots := #[.int (-102)], vm := .none },
  { cls := 9, slots := #[.int (-101)], vm := .none },
  { cls := 9, slots := #[.int (-100)], vm := .none },
  { cls := 9, slots := #[.int (-99)], vm := .none },
  { cls := 9, slots := #[.int (-98)], vm := .none },
  { cls := 9, slots := #[.int (-97)], vm := .none },
  { cls := 9, slots := #[.int (-96)], vm := .none },
  { cls := 9, slots := #[.int (-95)], vm := .none },
  { cls := 9, slots := #[.int (-94)], vm := .none },
  { cls := 9, slots := #[.int (-93)], vm := .none },
  { cls := 9, slots := #[.int (-92)], vm := .none },
  { cls := 9, slots := #[.int (-91)], vm := .none },
  { cls := 9, slots := #[.int (-90)], vm := .none },
  { cls := 9, slots := #[.int (-89)], vm := .none },
  { cls := 9, slots := #[.int (-88)], vm := .none },
  { cls := 9, slots := #[.int (-87)], vm := .none },
  { cls := 9, slots := #[.int (-86)], vm := .none },
  { cls := 9, slots := #[.int (-85)], vm := .none },
  { cls := 9, slots := #[.int (-84)], vm := .none },
  { cls := 9, slots := #[.int (-83)], vm := .none },
  { cls := 9, slots := #[.int (-82)], vm := .none },
  { cls := 9, slots := #[.int (-81)], vm := .none },
  { cls := 9, slots := #[.int (-80)], vm := .none },
  { cls := 9, slots := #[.int (-79)], vm := .none },
  { cls := 9, slots := #[.int (-78)], vm := .none },
  { cls := 9, slots := #[.int (-77)], vm := .none },
  { cls := 9, slots := #[.int (-76)], vm := .none },
  { cls := 9, slots := #[.int (-75)], vm := .none },
  { cls := 9, slots := #[.int (-74)], vm := .none },
  { cls := 9, slots := #[.int (-73)], vm := .none },
  { cls := 9, slots := #[.int (-72)], vm := .none },
  { cls := 9, slots := #[.int (-71)], vm := .none },
  { cls := 9, slots := #[.int (-70)], vm := .none },
  { cls := 9, slots := #[.int (-69)], vm := .none },
  { cls := 9, slots := #[.int (-68)], vm := .none },
  { cls := 9, slots := #[.int (-67)], vm := .none },
  { cls := 9, slots := #[.int (-66)], vm := .none },
  { cls := 9, slots := #[.int (-65)], vm := .none },
  { cls := 9, slots := #[.int (-64)], vm := .none },
  { cls := 9, slots := #[.int (-63)], vm := .none },
  { cls := 9, slots := #[.int (-62)], vm := .none },
  { cls := 9, slots := #[.int (-61)], vm := .none },
  { cls := 9, slots := #[.int (-60)], vm := .none },
  { cls := 9, slots := #[.int (-59)], vm := .none },
  { cls := 9, slots := #[.int (-58)], vm := .none },
  { cls := 9, slots := #[.int (-57)], vm := .none },
  { cls := 9, slots := #[.int (-56)], vm := .none },
  { cls := 9, slots := #[.int (-55)], vm := .none },
  { cls := 9, slots := #[.int (-54)], vm := .none },
  { cls := 9, slots := #[.int (-53)], vm := .none },
  { cls := 9, slots := #[.int (-52)], vm := .none },
  { cls := 9, slots := #[.int (-51)], vm := .none },
  { cls := 9, slots := #[.int (-50)], vm := .none },
  { cls := 9, slots := #[.int (-49)], vm := .none },
  { cls := 9, slots := #[.int (-48)], vm := .none },
  { cls := 9, slots := #[.int (-47)], vm := .none },
  { cls := 9, slots := #[.int (-46)], vm := .none },
  { cls := 9, slots := #[.int (-45)], vm := .none },
  { cls := 9, slots := #[.int (-44)], vm := .none },
  { cls := 9, slots := #[.int (-43)], vm := .none },
  { cls := 9, slots := #[.int (-42)], vm := .none },
  { cls := 9, slots := #[.int (-41)], vm := .none },
  { cls := 9, slots := #[.int (-40)], vm := .none },
  { cls := 9, slots := #[.int (-39)], vm := .none },
  { cls := 9, slots := #[.int (-38)], vm := .none },
  { cls := 9, slots := #[.int (-37)], vm := .none },
  { cls := 9, slots := #[.int (-36)], vm := .none },
  { cls := 9, slots := #[.int (-35)], vm := .none },
  { cls := 9, slots := #[.int (-34)], vm := .none },
  { cls := 9, slots := #[.int (-33)], vm := .none },
  { cls := 9, slots := #[.int (-32)], vm := .none },
  { cls := 9, slots := #[.int (-31)], vm := .none },
  { cls := 9, slots := #[.int (-30)], vm := .none },
  { cls := 9, slots := #[.int (-29)], vm := .none },
  { cls := 9, slots := #[.int (-28)], vm := .none },
  { cls := 9, slots := #[.int (-27)], vm := .none },
  { cls := 9, slots := #[.int (-26)], vm := .none },
  { cls := 9, slots := #[.int (-25)], vm := .none },
  { cls := 9, slots := #[.int (-24)], vm := .none },
  { cls := 9, slots := #[.int (-23)], vm := .none },
  { cls := 9, slots := #[.int (-22)], vm := .none },
  { cls := 9, slots := #[.int (-21)], vm := .none },
  { cls := 9, slots := #[.int (-20)], vm := .none },
  { cls := 9, slots := #[.int (-19)], vm := .none },
  { cls := 9, slots := #[.int (-18)], vm := .none },
  { cls := 9, slots := #[.int (-17)], vm := .none },
  { cls := 9, slots := #[.int (-16)], vm := .none },
  { cls := 9, slots := #[.int (-15)], vm := .none },
  { cls := 9, slots := #[.int (-14)], vm := .none },
  { cls := 9, slots := #[.int (-13)], vm := .none },
  { cls := 9, slots := #[.int (-12)], vm := .none },
  { cls := 9, slots := #[.int (-11)], vm := .none },
  { cls := 9, slots := #[.int (-10)], vm := .none },
  { cls := 9, slots := #[.int (-9)], vm := .none },
  { cls := 9, slots := #[.int (-8)], vm := .none },
  { cls := 9, slots := #[.int (-7)], vm := .none },
  { cls := 9, slots := #[.int (-6)], vm := .none },
  { cls := 9, slots := #[.int (-5)], vm := .none },
  { cls := 9, slots := #[.int (-4)], vm := .none },
  { cls := 9, slots := #[.int (-3)], vm := .none },
  { cls := 9, slots := #[.int (-2)], vm := .none },
  { cls := 9, slots := #[.int (-1)], vm := .none },
  { cls := 9, slots := #[.int (0)], vm := .none },
  { cls := 9, slots := #[.int (1)], vm := .none },
  { cls := 9, slots := #[.int (2)], vm := .none },
  { cls := 9, slots := #[.int (3)], vm := .none },
  { cls := 9, slots := #[.int (4)], vm := .none },
  { cls := 9, slots := #[.int (5)], vm := .none },
  { cls := 9, slots := #[.int (6)], vm := .none },
  { cls := 9, slots := #[.int (7)], vm := .none },
  { cls := 9, slots := #[.int (8)], vm := .none },
  { cls := 9, slots := #[.int (9)], vm := .none },
  { cls := 9, slots := #[.int (10)], vm := .none },
  { cls := 9, slots := #[.int (11)], vm := .none },
  { cls := 9, slots := #[.int (12)], vm := .none },
  { cls := 9, slots := #[.int (13)], vm := .none },
  { cls := 9, slots := #[.int (14)], vm := .none },
  { cls := 9, slots := #[.int (15)], vm := .none },
  { cls := 9, slots := #[.int (16)], vm := .none },
  { cls := 9, slots := #[.int (17)], vm := .none },
  { cls := 9, slots := #[.int (18)], vm := .none },
  { cls := 9, slots := #[.int (19)], vm := .none },
  { cls := 9, slots := #[.int (20)], vm := .none },
  { cls := 9, slots := #[.int (21)], vm := .none },
  { cls := 9, slots := #[.int (22)], vm := .none },
  { cls := 9, slots := #[.int (23)], vm := .none },
  { cls := 9, slots := #[.int (24)], vm := .none },
  { cls := 9, slots := #[.int (25)], vm := .none },
  { cls := 9, slots := #[.int (26)], vm := .none },
  { cls := 9, slots := #[.int (27)], vm := .none },
  { cls := 9, slots := #[.int (28)], vm := .none },
  { cls := 9, slots := #[.int (29)], vm := .none },
  { cls := 9, slots := #[.int (30)], vm := .none },
  { cls := 9, slots := #[.int (31)], vm := .none },
  { cls := 9, slots := #[.int (32)], vm := .none },
  { cls := 9, slots := #[.int (33)], vm := .none },
  { cls := 9, slots := #[.int (34)], vm := .none },
  { cls := 9, slots := #[.int (35)], vm := .none },
  { cls := 9, slots := #[.int (36)], vm := .none },
  { cls := 9, slots := #[.int (37)], vm := .none },
  { cls := 9, slots := #[.int (38)], vm := .none },
  { cls := 9, slots := #[.int (39)], vm := .none },
  { cls := 9, slots := #[.int (40)], vm := .none },
  { cls := 9, slots := #[.int (41)], vm := .none },
  { cls := 9, slots := #[.int (42)], vm := .none },
  { cls := 9, slots := #[.int (43)], vm := .none },
  { cls := 9, slots := #[.int (44)], vm := .none },
  { cls := 9, slots := #[.int (45)], vm := .none },
  { cls := 9, slots := #[.int (46)], vm := .none },
  { cls := 9, slots := #[.int (47)], vm := .none },
  { cls := 9, slots := #[.int (48)], vm := .none },
  { cls := 9, slots := #[.int (49)], vm := .none },
  { cls := 9, slots := #[.int (50)], vm := .none },
  { cls := 9, slots := #[.int (51)], vm := .none },
  { cls := 9, slots := #[.int (52)], vm := .none },
  { cls := 9, slots := #[.int (53)], vm := .none },
  { cls := 9, slots := #[.int (54)], vm := .none },
  { cls := 9, slots := #[.int (55)], vm := .none },
  { cls := 9, slots := #[.int (56)], vm := .none },
  { cls := 9, slots := #[.int (57)], vm := .none },
  { cls := 9, slots := #[.int (58)], vm := .none },
  { cls := 9, slots := #[.int (59)], vm := .none },
  { cls := 9, slots := #[.int (60)], vm := .none },
  { cls := 9, slots := #[.int (61)], vm := .none },
  { cls := 9, slots := #[.int (62)], vm := .none },
  { cls := 9, slots := #[.int (63)], vm := .none },
  { cls := 9, slots := #[.int (64)], vm := .none },
  { cls := 9, slots := #[.int (65)], vm := .none },
  { cls := 9, slots := #[.int (66)], vm := .none },
  { cls := 9, slots := #[.int (67)], vm := .none },
  { cls := 9, slots := #[.int (68)], vm := .none },
  { cls := 9, slots := #[.int (69)], vm := .none },
  { cls := 9, slots := #[.int (70)], vm := .none },
  { cls := 9, slots := #[.int (71)], vm := .none },
  { cls := 9, slots := #[.int (72)], vm := .none },
  { cls := 9, slots := #[.int (73)], vm := .none },
  { cls := 9, slots := #[.int (74)], vm := .none },
  { cls := 9, slots := #[.int (75)], vm := .none },
  { cls := 9, slots := #[.int (76)], vm := .none },
  { cls := 9, slots := #[.int (77)], vm := .none },
  { cls := 9, slots := #[.int (78)], vm := .none },
  { cls := 9, slots := #[.int (79)], vm := .none },
  { cls := 9, slots := #[.int (80)], vm := .none },
  { cls := 9, slots := #[.int (81)], vm := .none },
  { cls := 9, slots := #[.int (82)], vm := .none },
  { cls := 9, slots := #[.int (83)], vm := .none },
  { cls := 9, slots := #[.int (84)], vm := .none },
  { cls := 9, slots := #[.int (85)], vm := .none },
  { cls := 9, slots := #[.int (86)], vm := .none },
  { cls := 9, slots := #[.int (87)], vm := .none },
  { cls := 9, slots := #[.int (88)], vm := .none },
  { cls := 9, slots := #[.int (89)], vm := .none },
  { cls := 9, slots := #[.int (90)], vm := .none },
  { cls := 9, slots := #[.int (91)], vm := .none },
  { cls := 9, slots := #[.int (92)], vm := .none },
  { cls := 9, slots := #[.int (93)], vm := .none },
  { cls := 9, slots := #[.int (94)], vm := .none },
  { cls := 9, slots := #[.int (95)], vm := .none },
  { cls := 9, slots := #[.int (96)], vm := .none },
  { cls := 9, slots := #[.int (97)], vm := .none },
  { cls := 9, slots := #[.int (98)], vm := .none },
  { cls := 9, slots := #[.int (99)], vm := .none },
  { cls := 9, slots := #[.int (100)], vm := .none },
  { cls := 9, slots := #[.int (101)], vm := .none },
  { cls := 9, slots := #[.int (102)], vm := .none },
  { cls := 9, slots := #[.int (103)], vm := .none },
  { cls := 9, slots := #[.int (104)], vm := .none },
  { cls := 9, slots := #[.int (105)], vm := .none },
  { cls := 9, slots := #[.int (106)], vm := .none },
  { cls := 9, slots := #[.int (107)], vm := .none },
  { cls := 9, slots := #[.int (108)], vm := .none },
  { cls := 9, slots := #[.int (109)], vm := .none },
  { cls := 9, slots := #[.int (110)], vm := .none },
  { cls := 9, slots := #[.int (111)], vm := .none },
  { cls := 9, slots := #[.int (112)], vm := .none },
  { cls := 9, slots := #[.int (113)], vm := .none },
  { cls := 9, slots := #[.int (114)], vm := .none },
  { cls := 9, slots := #[.int (115)], vm := .none },
  { cls := 9, slots := #[.int (116)], vm := .none },
  { cls := 9, slots := #[.int (117)], vm := .none },
  { cls := 9, slots := #[.int (118)], vm := .none },
  { cls := 9, slots := #[.int (119)], vm := .none },
  { cls := 9, slots := #[.int (120)], vm := .none },
  { cls := 9, slots := #[.int (121)], vm := .none },
  { cls := 9, slots := #[.int (122)], vm := .none },
  { cls := 9, slots := #[.int (123)], vm := .none },
  { cls := 9, slots := #[.int (124)], vm := .none },
  { cls := 9, slots := #[.int (125)], vm := .none },
  { cls := 9, slots := #[.int (126)], vm := .none },
  { cls := 9, slots := #[.int (127)], vm := .none }]
def classes : Array Class := #[k0, k1, k2, k3, k4, k5, k6, k7, k8, k9, k10, k11, k12, k13, k14, k15, k16]
def interned : List (Array UInt16 × Addr) := []
def slotsUsed : Nat := 517
def theMethod : MethodId := ⟨1, 1⟩
def args0 : Array Value := #[.int 5, .int 3]
def aboutOver (below : List Frame) : State where
  vm := { classes := classes, interned := interned.toArray }
  heap := heap
  slotsUsed := slotsUsed
  threads := #[{ frames := .invoking theMethod args0 :: below }]
def below0 : List Frame := [.native { method := ⟨0, 0⟩, args := #[] }]
def about1 : State := aboutOver below0
def p0 : Program := .bare "" "" ""
def e0 : Env := launch0.env 0 0 0
theorem w_frames : about1.frames = Frame.invoking theMethod args0 :: below0 := rfl
set_option maxRecDepth 65536 in
theorem w_args : argsFit about1.vm theMethod args0 = true := by decide +kernel
set_option maxRecDepth 65536 in
theorem w_heap : heapFits about1 = true := by decide +kernel
set_option maxRecDepth 65536 in
theorem w_runnable : about1.curStatus? = some .runnable := by decide +kernel
set_option maxRecDepth 65536 in
theorem w_alone : about1.alone = true := by decide +kernel
set_option maxRecDepth 65536 in
theorem w_named : about1.methodNamed? x = some theMethod := by decide +kernel
set_option maxRecDepth 65536 in
theorem w_hears : about1.hears theMethod below0 = true := by decide +kernel
set_option maxRecDepth 65536 in
theorem w_ripe : about1.ripe theMethod args0 below0 = true := by decide +kernel
theorem w_running : about1.status = .running := rfl
set_option maxRecDepth 65536 in
theorem w_room : about1.hasRoom e0.platform room_1 = true :=
  launch0.hasRoom_least _ room_1 (by decide +kernel) (by decide +kernel) (by decide +kernel) (by decide +kernel) (by decide +kernel) (by decide +kernel)
theorem allAtoms_all (ts : List Jvm.Cond) (a : Array Jvm.Value) (st : Jvm.State) : (allAtoms ts).before a st = ts.all (fun c => c.before a st) := by
  induction ts with
  | nil => rfl
  | cons c t ih =>
    show (Jvm.Cond.and c (allAtoms t)).before a st = _
    rw [Jvm.Cond.before_and, ih, List.all_cons]
def words1 : List Jvm.Cond := Jvm.Cond.code x code maxLocals ret :: tables_1
/-- a 'code' word, met by the world's own term for the bytes: nothing is compared byte by byte -/
theorem code_word {y : MethodName} {bytes : ByteArray} {mx : Nat} {rt : Option FieldType} {a : Array Value} {s : State} {m : MethodId} {meth : Method} {c : Code} (h1 : s.methodNamed? y = some m) (h2 : s.vm.method? m = some meth) (h3 : meth.code = some c) (h4 : c.code = bytes)
    (h5 : (c.maxLocals == mx && c.exceptionTable.isEmpty && decide (c.maxStack ≤ mostOperands) && decide (meth.sig.returnType = rt) && !meth.locks && decide (parseMethodDescriptor y.desc = some meth.sig)) = true) : (Jvm.Cond.code y bytes mx rt).before a s = true := by
  simp only [Bool.and_eq_true, beq_iff_eq, Bool.not_eq_true', decide_eq_true_eq] at h5
  obtain ⟨⟨⟨⟨⟨g1, g2⟩, g3⟩, g4⟩, g5⟩, g6⟩ := h5
  simp [Cond.before, Cond.holds, Cond.value, h1, h2, h3, h4, g1, g2, g3, g4, g5, g6]
def isCode : Jvm.Cond → Bool
  | .code _ _ _ _ => true
  | _ => false
theorem all_split {L : List Jvm.Cond} {P : Jvm.Cond → Bool} (h1 : L.all (fun c => isCode c || P c) = true) (h2 : ∀ c ∈ L.filter isCode, P c = true) : L.all P = true := by
  refine List.all_eq_true.mpr fun c hc => ?_
  have h := List.all_eq_true.mp h1 c hc
  rcases Bool.eq_false_or_eq_true (isCode c) with hi | hi
  · exact h2 c (List.mem_filter.mpr ⟨hc, hi⟩)
  · simpa [hi] using h
set_option maxRecDepth 65536 in
theorem w_c0 : (Jvm.Cond.code x code maxLocals ret).before args0 about1 = true := code_word (m := ⟨1, 1⟩) (meth := k1m1) (c := k1c1) (by decide +kernel) rfl rfl rfl (by decide +kernel)
set_option maxRecDepth 65536 in
theorem w_c1 : (Jvm.Cond.code ({ cls := "java/lang/Integer", name := "valueOf", desc := "(I)Ljava/lang/Integer;" } : Jvm.MethodName) jdk_33_method_22_code (1 : Nat) (Option.some (Jvm.ClassFile.FieldType.object "java/lang/Integer"))).before args0 about1 = true := code_word (m := ⟨9, 0⟩) (meth := k9m0) (c := k9c0) (by decide +kernel) rfl rfl rfl (by decide +kernel)
set_option maxRecDepth 65536 in
theorem w_c2 : (Jvm.Cond.code ({ cls := "com/example/carmine/carmine/Node", name := "<init>", desc := "(Ljava/lang/Object;Ljava/lang/Object;)V" } : Jvm.MethodName) prog_6_method_1_code (3 : Nat) (Option.none : Option Jvm.ClassFile.FieldType)).before args0 about1 = true := code_word (m := ⟨3, 0⟩) (meth := k3m0) (c := k3c0) (by decide +kernel) rfl rfl rfl (by decide +kernel)
set_option maxRecDepth 65536 in
theorem w_c3 : (Jvm.Cond.code ({ cls := "java/lang/Object", name := "<init>", desc := "()V" } : Jvm.MethodName) object_method_1_code (1 : Nat) (Option.none : Option Jvm.ClassFile.FieldType)).before args0 about1 = true := code_word (m := ⟨0, 0⟩) (meth := k0m0) (c := k0c0) (by decide +kernel) rfl rfl rfl (by decide +kernel)
set_option maxRecDepth 65536 in
theorem w_c4 : (Jvm.Cond.code ({ cls := "com/example/carmine/carmine/Node", name := "setColoursAndSize", desc := "(ZZI)V" } : Jvm.MethodName) prog_6_method_11_code (4 : Nat) (Option.none : Option Jvm.ClassFile.FieldType)).before args0 about1 = true := code_word (m := ⟨3, 4⟩) (meth := k3m4) (c := k3c4) (by decide +kernel) rfl rfl rfl (by decide +kernel)
set_option maxRecDepth 65536 in
theorem w_c5 : (Jvm.Cond.code ({ cls := "com/example/carmine/carmine/Node", name := "setRed", desc := "(ZZ)V" } : Jvm.MethodName) prog_6_method_7_code (4 : Nat) (Option.none : Option Jvm.ClassFile.FieldType)).before args0 about1 = true := code_word (m := ⟨3, 2⟩) (meth := k3m2) (c := k3c2) (by decide +kernel) rfl rfl rfl (by decide +kernel)
set_option maxRecDepth 65536 in
theorem w_c6 : (Jvm.Cond.code ({ cls := "com/example/carmine/carmine/Node", name := "isRed", desc := "(Z)Z" } : Jvm.MethodName) prog_6_method_6_code (2 : Nat) (Option.some Jvm.ClassFile.FieldType.boolean)).before args0 about1 = true := code_word (m := ⟨3, 1⟩) (meth := k3m1) (c := k3c1) (by decide +kernel) rfl rfl rfl (by decide +kernel)
set_option maxRecDepth 65536 in
theorem w_c7 : (Jvm.Cond.code ({ cls := "com/example/carmine/carmine/Node", name := "size", desc := "()I" } : Jvm.MethodName) prog_6_method_8_code (1 : Nat) (Option.some Jvm.ClassFile.FieldType.int)).before args0 about1 = true := code_word (m := ⟨3, 3⟩) (meth := k3m3) (c := k3c3) (by decide +kernel) rfl rfl rfl (by decide +kernel)
set_option maxRecDepth 65536 in
theorem w_c8 : (Jvm.Cond.code ({ cls := "java/lang/Integer", name := "<init>", desc := "(I)V" } : Jvm.MethodName) jdk_33_method_23_code (2 : Nat) (Option.none : Option Jvm.ClassFile.FieldType)).before args0 about1 = true := code_word (m := ⟨9, 1⟩) (meth := k9m1) (c := k9c1) (by decide +kernel) rfl rfl rfl (by decide +kernel)
set_option maxRecDepth 65536 in
theorem w_c9 : (Jvm.Cond.code ({ cls := "java/lang/Number", name := "<init>", desc := "()V" } : Jvm.MethodName) jdk_18_method_1_code (1 : Nat) (Option.none : Option Jvm.ClassFile.FieldType)).before args0 about1 = true := code_word (m := ⟨5, 0⟩) (meth := k5m0) (c := k5c0) (by decide +kernel) rfl rfl rfl (by decide +kernel)
def codes1 : List Jvm.Cond := [Jvm.Cond.code x code maxLocals ret, Jvm.Cond.code ({ cls := "java/lang/Integer", name := "valueOf", desc := "(I)Ljava/lang/Integer;" } : Jvm.MethodName) jdk_33_method_22_code (1 : Nat) (Option.some (Jvm.ClassFile.FieldType.object "java/lang/Integer")), Jvm.Cond.code ({ cls := "com/example/carmine/carmine/Node", name := "<init>", desc := "(Ljava/lang/Object;Ljava/lang/Object;)V" } : Jvm.MethodName) prog_6_method_1_code (3 : Nat) (Option.none : Option Jvm.ClassFile.FieldType), Jvm.Cond.code ({ cls := "java/lang/Object", name := "<init>", desc := "()V" } : Jvm.MethodName) object_method_1_code (1 : Nat) (Option.none : Option Jvm.ClassFile.FieldType), Jvm.Cond.code ({ cls := "com/example/carmine/carmine/Node", name := "setColoursAndSize", desc := "(ZZI)V" } : Jvm.MethodName) prog_6_method_11_code (4 : Nat) (Option.none : Option Jvm.ClassFile.FieldType), Jvm.Cond.code ({ cls := "com/example/carmine/carmine/Node", name := "setRed", desc := "(ZZ)V" } : Jvm.MethodName) prog_6_method_7_code (4 : Nat) (Option.none : Option Jvm.ClassFile.FieldType), Jvm.Cond.code ({ cls := "com/example/carmine/carmine/Node", name := "isRed", desc := "(Z)Z" } : Jvm.MethodName) prog_6_method_6_code (2 : Nat) (Option.some Jvm.ClassFile.FieldType.boolean), Jvm.Cond.code ({ cls := "com/example/carmine/carmine/Node", name := "size", desc := "()I" } : Jvm.MethodName) prog_6_method_8_code (1 : Nat) (Option.some Jvm.ClassFile.FieldType.int), Jvm.Cond.code ({ cls := "java/lang/Integer", name := "<init>", desc := "(I)V" } : Jvm.MethodName) jdk_33_method_23_code (2 : Nat) (Option.none : Option Jvm.ClassFile.FieldType), Jvm.Cond.code ({ cls := "java/lang/Number", name := "<init>", desc := "()V" } : Jvm.MethodName) jdk_18_method_1_code (1 : Nat) (Option.none : Option Jvm.ClassFile.FieldType)]
set_option maxRecDepth 65536 in
theorem codes_eq : words1.filter isCode = codes1 := rfl
theorem w_codes : ∀ c ∈ words1.filter isCode, c.before args0 about1 = true := by
  rw [codes_eq]
  intro c hc
  simp only [codes1, List.mem_cons, List.not_mem_nil, or_false] at hc
  rcases hc with rfl | rfl | rfl | rfl | rfl | rfl | rfl | rfl | rfl | rfl
  · exact w_c0
  · exact w_c1
  · exact w_c2
  · exact w_c3
  · exact w_c4
  · exact w_c5
  · exact w_c6
  · exact w_c7
  · exact w_c8
  · exact w_c9
set_option maxRecDepth 65536 in
theorem w_t1 : (words1.take 24).all (fun c => isCode c || c.before args0 about1) = true := by decide +kernel
set_option maxRecDepth 65536 in
theorem w_t2 : ((words1.drop 24).take 24).all (fun c => isCode c || c.before args0 about1) = true := by decide +kernel
set_option maxRecDepth 65536 in
theorem w_t3 : ((words1.drop 24).drop 24).all (fun c => isCode c || c.before args0 about1) = true := by decide +kernel
theorem w_tables : (allAtoms (Jvm.Cond.code x code maxLocals ret :: tables_1)).before args0 about1 = true := by
  rw [allAtoms_all]
  show words1.all (fun c => c.before args0 about1) = true
  refine all_split ?_ w_codes
  rw [← List.take_append_drop 24 words1, List.all_append, w_t1, ← List.take_append_drop 24 (words1.drop 24), List.all_append, w_t2, w_t3]
  rfl
set_option maxRecDepth 65536 in
theorem w_rest : rest_1_c.before args0 about1 = true := by decide +kernel
set_option maxRecDepth 65536 in
theorem w_case : (Jvm.Cond.and given_1 narrow_1).before args0 about1 = true := by decide +kernel
theorem w_applies : (headSpec (Jvm.Cond.code x code maxLocals ret :: tables_1) room_1).applies x e0.platform about1 = true :=
  (Spec.applies_iff w_frames).mpr ⟨w_running, w_runnable, w_alone, w_named, w_hears, w_ripe, w_room, w_tables⟩
theorem atStart : AtStart classFile x code maxLocals ret World_1 tables_1 room_1 Calls_1 rest_1 Pre_1 launch0 p0 e0 about1 theMethod args0 below0 :=
  ⟨lists_1, trivial, launch0.admits_env _ _ _, launch0.least_env, fairChoices_fair.cas, fairChoices_fair.clock, w_frames, w_args, w_heap, w_applies, trivial, w_rest, w_case⟩
end start1
theorem witness_1 : WitnessClaimed_1 := ⟨start1.p0, start1.e0, start1.about1, start1.theMethod, start1.args0, start1.below0, start1.atStart⟩
end Jvm.Pilot.@@N@@
