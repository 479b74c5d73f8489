import JvmDerived
import JvmDerived.Pilot.@@N@@Statement
import JvmDerived.Pilot.@@N@@Code
set_option linter.unusedVariables false
set_option linter.unusedSimpArgs false
namespace Jvm.RoadKit
open Sem ClassFile Op Lib Jvm.Stand Jvm.Free Jvm.LawKit
section New
variable {p : Program} {l : Launch} {e : Env} {R : Room} {s : State} {m : MethodId} {args : Array Value} {below : List Frame} {meth : Method} {c : Code} {T : State} {locs : List Loc} {cells slots : Nat}
theorem retI (X : Stand p l e R s m args below meth c T locs cells slots) (hx : p.tables.exec = Jvm.exec) {pc : Nat} {Ls : Array Slot} {z : Int32} {rest : List Value} (hret : meth.sig.returnType = some .int) (hd : decode c.code pc = .ok (.ireturn, 1)) {fs : List Frame}
    (hl : ∀ (f : JFrame) (acts : List Action), f.method = m → f.locked = none → f.entered = [] → (doReturn e (T.setTop f) acts (some (.int z))).1 = T.setFrames fs) : Steps p.tables e below (T.setTop (mkF m pc Ls (.int z :: rest))) (T.setFrames fs) := by
  have hm' : T.vm.method? m = some meth := X.method'
  have hn : narrow .int (.int z) = .int z := rfl
  show Steps p.tables e below (T.setTop { method := m, pc := pc, locals := Ls, stack := _ :: rest, locked := none }) _
  jvm_step X.here [X.here.top, hx, hd, hm', hret, hn]
  first | (intro acts; rw [hl _ acts rfl rfl rfl]) | rw [hl _ _ rfl rfl rfl]
  exact Steps.refl _
/-- the run goes on from here to an end of which P holds -/
def Go (tb : Tables) (e : Env) (below : List Frame) (T : State) (g : JFrame) (P : State → Prop) : Prop := ∃ U, Steps tb e below (T.setTop g) U ∧ P U
theorem go1 {tb : Tables} {T' : State} {g g' : JFrame} {P : State → Prop} (k : ∀ t, Steps tb e below (T'.setTop g') t → Steps tb e below (T.setTop g) t) (h : Go tb e below T' g' P) : Go tb e below T g P := by
  obtain ⟨U, h1, h2⟩ := h; exact ⟨U, k U h1, h2⟩
theorem goT {tb : Tables} {T' : State} {g g' : JFrame} {P : State → Prop} (k : Steps tb e below (T.setTop g) (T'.setTop g')) (h : Go tb e below T' g' P) : Go tb e below T g P := by
  obtain ⟨U, h1, h2⟩ := h; exact ⟨U, k.trans h1, h2⟩
theorem stp {tb : Tables} {T' t : State} {g g' : JFrame} (k : ∀ t, Steps tb e below (T'.setTop g') t → Steps tb e below (T.setTop g) t) (h : Steps tb e below (T'.setTop g') t) : Steps tb e below (T.setTop g) t := k t h
theorem goB {tb : Tables} {ml : Nat} {g : JFrame} {Qp : Outcome → State → Prop} (q : entryFrame m args ml = g) (h : Go tb e below T g (fun U => ∃ o, U.status = .running ∧ Ended U below o ∧ Qp o U)) :
    ∃ s₂ o, Steps tb e below (T.setTop (entryFrame m args ml)) s₂ ∧ s₂.status = .running ∧ Ended s₂ below o ∧ Qp o s₂ := by
  obtain ⟨U, h1, o, h2, h3, h4⟩ := h; exact ⟨U, o, q ▸ h1, h2, h3, h4⟩
theorem goR (X : Stand p l e R s m args below meth c T locs cells slots) (hlocks : meth.locks = false) {v : Option Value} (hv : meth.sig.returnType = none → v = none) {g : JFrame} {kc ks : Nat} (Q : Option Value → Heap → List Loc → Prop)
    (k : ∀ fs, (∀ (f : JFrame) (acts : List Action), f.method = m → f.locked = none → f.entered = [] → (doReturn e (T.setTop f) acts v).1 = T.setFrames fs) → Steps p.tables e below (T.setTop g) (T.setFrames fs)) (hc : cells ≤ kc) (hs : slots ≤ ks) (hq : Q v T.heap locs) :
    Go p.tables e below T g (fun U => ∃ o, U.status = .running ∧ Ended U below o ∧ ∃ v L, o = .returned v ∧ Q v U.heap L ∧ FrameEnd s o U L kc ks) := by
  obtain ⟨fs, hr, hrun, hended, hW, hsame⟩ := X.leave hv hlocks
  exact ⟨_, k fs hr, _, hrun, hended, _, _, rfl, hq, ⟨_, rfl⟩, hW, hsame.mono hc hs⟩
theorem fitsG {C : String} {u : Value} (h : u.isRef = true) : fits (.object C) u = true := by rcases ref_cases h with rfl | ⟨a, rfl⟩ <;> rfl
theorem selPriv {Z : State} {a0 : Array Value} {y : MethodName} {n : Nat} (hZ : Z.Warmed39 s.vm) (wi : (Cond.instantiable y.cls n).before a0 Z = true) (wp : (Cond.privateMethod y).before a0 Z = true) (wm : (Cond.instanceMethod y).before a0 Z = true) (hy : y.cls ≠ "java/lang/invoke/MethodHandle" ∧ y.cls ≠ "java/lang/invoke/VarHandle") : (Cond.selects y.cls y y).before args s = true := by
  obtain ⟨c, k, h1, h2, -, h4, -⟩ := Cond.instantiable_spec (show (Cond.instantiable y.cls n).before args s = true from mv hZ wi)
  have h5 : k.isInterface = false := by
    cases hq : k.isInterface
    · rfl
    · rw [hq] at h4; simp at h4
  exact selects_self_of_private h1 h2 h5 (Cond.privateMethod_at (mvP hZ wp (args := #[]))) (mv hZ wm) hy
theorem nsRoot {Z : State} {a0 : Array Value} {O K : String} {n : Nat} (w : (Cond.noSuperclass O).before a0 Z = true) (wk : (Cond.instantiable K n).before a0 Z = true) (hn : O ≠ K) : NS Z O K := by
  obtain ⟨c, k, h1, h2, h3, -⟩ := Cond.noSuperclass_spec w
  obtain ⟨t, kt, g1, -⟩ := Cond.instantiable_spec wk
  have ne := ids_ne h1 g1 hn
  exact ⟨c, t, h1, g1, fun fuel => by cases fuel <;> simp [Vm.isSubclassAux, ne, h2, h3]⟩
theorem nsNo {Z : State} {a0 : Array Value} {C S K : String} {n : Nat} (w : (Cond.superclass C S).before a0 Z = true) (wk : (Cond.instantiable K n).before a0 Z = true) (N : NS Z C K) (hn : C ≠ K) : ∃ c t, Z.vm.findClass C = some c ∧ Z.vm.findClass K = some t ∧ Z.vm.assignable c t = false := by
  obtain ⟨c, t, h0, g0, n3⟩ := N
  obtain ⟨pp, k, kp, -, h2, -, -, h5, -, -⟩ := Cond.superclass_spec h0 w
  obtain ⟨t', kt, g1, g2, g3, g4, -⟩ := Cond.instantiable_spec wk
  cases g0.symm.trans g1
  have ne := ids_ne h0 g0 hn
  have g5 : kt.isInterface = false := by
    cases hq : kt.isInterface
    · rfl
    · rw [hq] at g4; simp at g4
  refine ⟨c, t, h0, g0, ?_⟩
  show Z.vm.assignableAux (255 + 1) c t = false
  simp [Vm.assignableAux, ne, h2, g2, h5, g3, g5, Vm.isSubclass, n3]
theorem lenS {Z : State} {t : Term} {a : Addr} {cl : Cell} {n : Int32} {ty : FieldType} (ev : t.eval args Z none [] Z = some (.ref a)) (A : Arr Z Z.heap a cl ty) (h : (Term.length t).eval args Z none [] Z = some (.int n)) :
    cl.slots.size < 2 ^ 31 ∧ cl.slots.size.toInt32 = n ∧ cl.slots.size = n.toNatClampNeg ∧ ¬ n < 0 := by
  have ha := A.fin (Vm.Alike.refl _)
  by_cases q : cl.slots.size < 2 ^ 31
  · have e := len_f ev ha q
    rw [h] at e
    have e2 : n = cl.slots.size.toInt32 := by injection e with e; injection e
    have e3 := len_toInt q
    refine ⟨q, e2.symm, ?_, ?_⟩
    · rw [e2]; simp only [Int32.toNatClampNeg, e3]; rfl
    · rw [e2, Int32.lt_iff_toInt_lt, e3]; show ¬ (cl.slots.size : Int) < 0; omega
  · exfalso
    have q' : ¬ cl.slots.size < 2147483648 := q
    simp [Term.eval, ev, ha, q'] at h
end New
end Jvm.RoadKit
namespace Jvm.Pilot.@@N@@
open Jvm Jvm.ClassFile Sem Op Lib Jvm.Free Jvm.Stand Jvm.LawKit Jvm.RoadKit Bundle Jvm.Pilot.@@N@@.Jvm.D
theorem d1_0 : decode prog_27_method_7_code 0 = .ok (.aload_n 0, 1) := by decide +kernel
theorem d1_1 : decode prog_27_method_7_code 1 = .ok (.getfield 50, 3) := by decide +kernel
theorem d1_4 : decode prog_27_method_7_code 4 = .ok (.arraylength, 1) := by decide +kernel
theorem d1_5 : decode prog_27_method_7_code 5 = .ok (.aload_n 0, 1) := by decide +kernel
theorem d1_6 : decode prog_27_method_7_code 6 = .ok (.getfield 55, 3) := by decide +kernel
theorem d1_9 : decode prog_27_method_7_code 9 = .ok (.arraylength, 1) := by decide +kernel
theorem d1_10 : decode prog_27_method_7_code 10 = .ok (.iadd, 1) := by decide +kernel
theorem d1_11 : decode prog_27_method_7_code 11 = .ok (.ireturn, 1) := by decide +kernel
theorem pn_1 : plainName "com/example/under50k/under50k/SitemapFile$Kind" = true := by first | (simp [plainName, overriddenIn]; done) | decide +kernel
theorem ef_1 (m : MethodId) (b1 : Addr) : entryFrame m #[(.ref b1)] 1 = mkF m 0 #[.val (.ref b1)] [] := by first | (simp [entryFrame, mkF, argsToLocals, Value.category]; done) | rfl
def Q1 (Z : State) (b1 : Addr) (d1 : Addr) (d2 : Addr) (z1 : Int32) (z2 : Int32) (h0 : Heap) (n0 : Nat) (v : Option Value) (h : Heap) (L : List Loc) : Prop := v = some (.int (z1 + z2)) ∧ Fr n0 L ∧ h = h0
set_option maxRecDepth 65536 in
set_option maxHeartbeats 40000000 in
theorem rm1 (l : Launch) (Z : State) (a0 : Array Value) (hw : ∀ d ∈ tables_1, d.before a0 Z = true) (ws : List Jvm.Cond) (b1 : Addr) (d1 : Addr) (d2 : Addr) (z1 : Int32) (z2 : Int32) (h0 : Heap) (n0 : Nat) (Z0 : n0 ≤ h0.size) (O0 : Old Z n0 h0) (F_head_b1 : Fld Z h0 b1 "com/example/under50k/under50k/SitemapFile$Kind" "head" "[B" (.ref d1)) (F_tail_b1 : Fld Z h0 b1 "com/example/under50k/under50k/SitemapFile$Kind" "tail" "[B" (.ref d2)) (AS_d1 : ∃ cl : Cell, Arr Z Z.heap d1 cl .byte ∧ cl.slots.size = (z1).toNatClampNeg ∧ ¬ z1 < 0) (AS_d2 : ∃ cl : Cell, Arr Z Z.heap d2 cl .byte ∧ cl.slots.size = (z2).toNatClampNeg ∧ ¬ z2 < 0) :
    MetFree l (⟨"com/example/under50k/under50k/SitemapFile$Kind", "emptySize", "()I"⟩ : MethodName) (head1 (Jvm.Cond.code (⟨"com/example/under50k/under50k/SitemapFile$Kind", "emptySize", "()I"⟩ : MethodName) prog_27_method_7_code 1 (some .int) :: ws) ({ frames := 0, cells := 0, slots := 0, locals := 0 } : Room)) (fun a U => a = #[(.ref b1)] ∧ Z.Warmed39 U.vm ∧ U.heap = h0) (fun _ _ _ _ _ => True) (fun _ U o U' => ∃ v L, o = .returned v ∧ Q1 Z b1 d1 d2 z1 z2 h0 n0 v U'.heap L ∧ FrameEnd U o U' L ({ frames := 0, cells := 0, slots := 0, locals := 0 } : Room).cells ({ frames := 0, cells := 0, slots := 0, locals := 0 } : Room).slots) := by
  refine MetFree.of_bodySF (plainFor_of_name pn_1) hisR ?_
  intro p e s m args below meth c s₁ Bd hml0 hP hK
  obtain ⟨rfl, hZ, hh⟩ := hP
  have hx := Bd.exec
  have hby := Bd.bytes
  have hml : c.maxLocals = 1 := hml0
  have hown : s.vm.findClass "com/example/under50k/under50k/SitemapFile$Kind" = some m.cls := findClass_of_methodNamed Bd.named
  have hnm := (name_of_methodNamed Bd.named Bd.method).1
  have X0 : Stand p l e ({ frames := 0, cells := 0, slots := 0, locals := 0 } : Room) s m #[(.ref b1)] below meth c s₁ [] 0 0 := Stand.of_body Bd
  have e0 : s₁.heap = h0 := by rw [← hh, Bd.state]; rfl
  have N0 := Fr.nil n0
  refine goB (ef_1 m b1) ?_
  show Go p.tables e below s₁ (mkF m 0 #[.val (.ref b1)] []) _
  refine go1 (fun _ => XS.aloadN X0.here hx rfl (hb hby d1_0) rfl rfl) ?_
  show Go p.tables e below s₁ (mkF m 1 #[.val (.ref b1)] [(.ref b1)]) _
  obtain ⟨T1, X1, e1, st1⟩ := getF X0 hx hZ hown (host := "") (Or.inl (hw _ (List.mem_of_getElem? (i := 8) rfl))) Via.refl e0 F_head_b1 (g := (mkF m 1 #[.val (.ref b1)] [(.ref b1)])) rfl rfl (hb hby d1_1)
  refine go1 st1 ?_
  show Go p.tables e below T1 (mkF m 4 #[.val (.ref b1)] [(.ref d1)]) _
  obtain ⟨cl2, Ar2_, S2, M2⟩ := AS_d1
  have Ar2 := Ar2_.ext O0.2
  refine go1 (T' := T1) (g' := (mkF m 5 #[.val (.ref b1)] [(.int z1)])) (fun t k => ?_) ?_
  · refine X1.arraylength hx (by rw [e1]; exact Ar2.1) (State.isArrayOf_alike hZ.alike Ar2.2.1) (g := (mkF m 4 #[.val (.ref b1)] [(.ref d1)])) rfl rfl (hb hby d1_4) _ ?_
    rw [len_of S2 M2]
    exact k
  show Go p.tables e below T1 (mkF m 5 #[.val (.ref b1)] [(.int z1)]) _
  refine go1 (fun _ => XS.aloadN X1.here hx rfl (hb hby d1_5) rfl rfl) ?_
  show Go p.tables e below T1 (mkF m 6 #[.val (.ref b1)] [(.ref b1), (.int z1)]) _
  obtain ⟨T3, X3, e3, st3⟩ := getF X1 hx hZ hown (host := "") (Or.inl (hw _ (List.mem_of_getElem? (i := 10) rfl))) Via.refl e1 F_tail_b1 (g := (mkF m 6 #[.val (.ref b1)] [(.ref b1), (.int z1)])) rfl rfl (hb hby d1_6)
  refine go1 st3 ?_
  show Go p.tables e below T3 (mkF m 9 #[.val (.ref b1)] [(.ref d2), (.int z1)]) _
  obtain ⟨cl4, Ar4_, S4, M4⟩ := AS_d2
  have Ar4 := Ar4_.ext O0.2
  refine go1 (T' := T3) (g' := (mkF m 10 #[.val (.ref b1)] [(.int z2), (.int z1)])) (fun t k => ?_) ?_
  · refine X3.arraylength hx (by rw [e3]; exact Ar4.1) (State.isArrayOf_alike hZ.alike Ar4.2.1) (g := (mkF m 9 #[.val (.ref b1)] [(.ref d2), (.int z1)])) rfl rfl (hb hby d1_9) _ ?_
    rw [len_of S4 M4]
    exact k
  show Go p.tables e below T3 (mkF m 10 #[.val (.ref b1)] [(.int z2), (.int z1)]) _
  refine go1 (fun _ => XS.iadd X3.here hx rfl (hb hby d1_10) rfl) ?_
  show Go p.tables e below T3 (mkF m 11 #[.val (.ref b1)] [(.int (z1 + z2))]) _
  refine goR X3 (BodyLoose.notSynchronized Bd) (v := (some (.int (z1 + z2)))) (fun h => by rw [Bd.returns] at h; cases h) (Q1 Z b1 d1 d2 z1 z2 h0 n0) (fun fs hr => retI X3 hx Bd.returns (hb hby d1_11) hr) (by decide) (by decide) ?_
  show Q1 Z b1 d1 d2 z1 z2 h0 n0 _ T3.heap _
  rw [e3]
  exact ⟨rfl, N0, rfl⟩
theorem d2_0 : decode method_2_code 0 = .ok (.bipush 6, 2) := by decide +kernel
theorem d2_2 : decode method_2_code 2 = .ok (.istore_n 1, 1) := by decide +kernel
theorem d2_3 : decode method_2_code 3 = .ok (.iload_n 0, 1) := by decide +kernel
theorem d2_4 : decode method_2_code 4 = .ok (.ifCond .eq 6, 3) := by decide +kernel
theorem d2_7 : decode method_2_code 7 = .ok (.bipush 12, 2) := by decide +kernel
theorem d2_9 : decode method_2_code 9 = .ok (.istore_n 1, 1) := by decide +kernel
theorem d2_10 : decode method_2_code 10 = .ok (.bipush 39, 2) := by decide +kernel
theorem d2_12 : decode method_2_code 12 = .ok (.istore_n 2, 1) := by decide +kernel
theorem d2_13 : decode method_2_code 13 = .ok (.iload_n 2, 1) := by decide +kernel
theorem d2_14 : decode method_2_code 14 = .ok (.iconst 1, 1) := by decide +kernel
theorem d2_15 : decode method_2_code 15 = .ok (.iadd, 1) := by decide +kernel
theorem d2_16 : decode method_2_code 16 = .ok (.iload_n 1, 1) := by decide +kernel
theorem d2_17 : decode method_2_code 17 = .ok (.iadd, 1) := by decide +kernel
theorem d2_18 : decode method_2_code 18 = .ok (.bipush 8, 2) := by decide +kernel
theorem d2_20 : decode method_2_code 20 = .ok (.iadd, 1) := by decide +kernel
theorem d2_21 : decode method_2_code 21 = .ok (.bipush 43, 2) := by decide +kernel
theorem d2_23 : decode method_2_code 23 = .ok (.iadd, 1) := by decide +kernel
theorem d2_24 : decode method_2_code 24 = .ok (.iconst 3, 1) := by decide +kernel
theorem d2_25 : decode method_2_code 25 = .ok (.iadd, 1) := by decide +kernel
theorem d2_26 : decode method_2_code 26 = .ok (.istore_n 3, 1) := by decide +kernel
theorem d2_27 : decode method_2_code 27 = .ok (.iconst 2, 1) := by decide +kernel
theorem d2_28 : decode method_2_code 28 = .ok (.iload_n 1, 1) := by decide +kernel
theorem d2_29 : decode method_2_code 29 = .ok (.iadd, 1) := by decide +kernel
theorem d2_30 : decode method_2_code 30 = .ok (.iconst 2, 1) := by decide +kernel
theorem d2_31 : decode method_2_code 31 = .ok (.iadd, 1) := by decide +kernel
theorem d2_32 : decode method_2_code 32 = .ok (.istore 4, 2) := by decide +kernel
theorem d2_34 : decode method_2_code 34 = .ok (.iload_n 3, 1) := by decide +kernel
theorem d2_35 : decode method_2_code 35 = .ok (.iload 4, 2) := by decide +kernel
theorem d2_37 : decode method_2_code 37 = .ok (.iadd, 1) := by decide +kernel
theorem d2_38 : decode method_2_code 38 = .ok (.ireturn, 1) := by decide +kernel
theorem pn_2 : plainName "com/example/under50k/under50k/KindEmptySizePinLaw" = true := by first | (simp [plainName, overriddenIn]; done) | decide +kernel
theorem ef_2 (m : MethodId) (p1 : Int32) : entryFrame m #[(.int p1)] 5 = mkF m 0 #[.val (.int p1), .unset, .unset, .unset, .unset] [] := by first | (simp [entryFrame, mkF, argsToLocals, Value.category]; done) | rfl
def own_2 (p1 : Int32) : Int32 :=
  if p1 = (0 : Int32) then
    (110 : Int32)
  else
    (122 : Int32)
def Q2 (Z : State) (p1 : Int32) (h0 : Heap) (n0 : Nat) (v : Option Value) (h : Heap) (L : List Loc) : Prop := v = some (.int (own_2 p1)) ∧ Fr n0 L ∧ h = h0
set_option maxRecDepth 65536 in
set_option maxHeartbeats 40000000 in
theorem rm2 (l : Launch) (Z : State) (a0 : Array Value) (hw : ∀ d ∈ tables_1, d.before a0 Z = true) (ws : List Jvm.Cond) (p1 : Int32) (h0 : Heap) (n0 : Nat) (Z0 : n0 ≤ h0.size) :
    MetFree l (⟨"com/example/under50k/under50k/KindEmptySizePinLaw", "expected", "(Z)I"⟩ : MethodName) (head1 (Jvm.Cond.code (⟨"com/example/under50k/under50k/KindEmptySizePinLaw", "expected", "(Z)I"⟩ : MethodName) method_2_code 5 (some .int) :: ws) ({ frames := 0, cells := 0, slots := 0, locals := 0 } : Room)) (fun a U => a = #[(.int p1)] ∧ Z.Warmed39 U.vm ∧ U.heap = h0) (fun _ _ _ _ _ => True) (fun _ U o U' => ∃ v L, o = .returned v ∧ Q2 Z p1 h0 n0 v U'.heap L ∧ FrameEnd U o U' L ({ frames := 0, cells := 0, slots := 0, locals := 0 } : Room).cells ({ frames := 0, cells := 0, slots := 0, locals := 0 } : Room).slots) := by
  refine MetFree.of_bodySF (plainFor_of_name pn_2) hisR ?_
  intro p e s m args below meth c s₁ Bd hml0 hP hK
  obtain ⟨rfl, hZ, hh⟩ := hP
  have hx := Bd.exec
  have hby := Bd.bytes
  have hml : c.maxLocals = 5 := hml0
  have hown : s.vm.findClass "com/example/under50k/under50k/KindEmptySizePinLaw" = some m.cls := findClass_of_methodNamed Bd.named
  have hnm := (name_of_methodNamed Bd.named Bd.method).1
  have X0 : Stand p l e ({ frames := 0, cells := 0, slots := 0, locals := 0 } : Room) s m #[(.int p1)] below meth c s₁ [] 0 0 := Stand.of_body Bd
  have e0 : s₁.heap = h0 := by rw [← hh, Bd.state]; rfl
  have N0 := Fr.nil n0
  refine goB (ef_2 m p1) ?_
  show Go p.tables e below s₁ (mkF m 0 #[.val (.int p1), .unset, .unset, .unset, .unset] []) _
  refine go1 (fun _ => XS.bipush X0.here hx rfl (hb hby d2_0)) ?_
  show Go p.tables e below s₁ (mkF m 2 #[.val (.int p1), .unset, .unset, .unset, .unset] [(.int (6 : Int32))]) _
  refine go1 (fun _ => XS.istoreN X0.here hx rfl (hb hby d2_2) rfl (l' := #[.val (.int p1), .val (.int (6 : Int32)), .unset, .unset, .unset]) rfl) ?_
  show Go p.tables e below s₁ (mkF m 3 #[.val (.int p1), .val (.int (6 : Int32)), .unset, .unset, .unset] []) _
  refine go1 (fun _ => XS.iloadN X0.here hx rfl (hb hby d2_3) rfl) ?_
  show Go p.tables e below s₁ (mkF m 4 #[.val (.int p1), .val (.int (6 : Int32)), .unset, .unset, .unset] [(.int p1)]) _
  by_cases hc1 : p1 = (0 : Int32)
  · skip
    refine go1 (fun _ => XS.ifYes X0.here hx rfl (pc0 := 4) (pc' := 10) rfl (hb hby d2_4) rfl ((if0 _ _).trans (teq hc1).1) (by decide) (by decide)) ?_
    show Go p.tables e below s₁ (mkF m 10 #[.val (.int p1), .val (.int (6 : Int32)), .unset, .unset, .unset] []) _
    refine go1 (fun _ => XS.bipush X0.here hx rfl (hb hby d2_10)) ?_
    show Go p.tables e below s₁ (mkF m 12 #[.val (.int p1), .val (.int (6 : Int32)), .unset, .unset, .unset] [(.int (39 : Int32))]) _
    refine go1 (fun _ => XS.istoreN X0.here hx rfl (hb hby d2_12) rfl (l' := #[.val (.int p1), .val (.int (6 : Int32)), .val (.int (39 : Int32)), .unset, .unset]) rfl) ?_
    show Go p.tables e below s₁ (mkF m 13 #[.val (.int p1), .val (.int (6 : Int32)), .val (.int (39 : Int32)), .unset, .unset] []) _
    refine go1 (fun _ => XS.iloadN X0.here hx rfl (hb hby d2_13) rfl) ?_
    show Go p.tables e below s₁ (mkF m 14 #[.val (.int p1), .val (.int (6 : Int32)), .val (.int (39 : Int32)), .unset, .unset] [(.int (39 : Int32))]) _
    refine go1 (fun _ => XS.iconst X0.here hx rfl (hb hby d2_14)) ?_
    show Go p.tables e below s₁ (mkF m 15 #[.val (.int p1), .val (.int (6 : Int32)), .val (.int (39 : Int32)), .unset, .unset] [(.int (1 : Int32)), (.int (39 : Int32))]) _
    refine go1 (fun _ => XS.iadd X0.here hx rfl (hb hby d2_15) rfl) ?_
    show Go p.tables e below s₁ (mkF m 16 #[.val (.int p1), .val (.int (6 : Int32)), .val (.int (39 : Int32)), .unset, .unset] [(.int (40 : Int32))]) _
    refine go1 (fun _ => XS.iloadN X0.here hx rfl (hb hby d2_16) rfl) ?_
    show Go p.tables e below s₁ (mkF m 17 #[.val (.int p1), .val (.int (6 : Int32)), .val (.int (39 : Int32)), .unset, .unset] [(.int (6 : Int32)), (.int (40 : Int32))]) _
    refine go1 (fun _ => XS.iadd X0.here hx rfl (hb hby d2_17) rfl) ?_
    show Go p.tables e below s₁ (mkF m 18 #[.val (.int p1), .val (.int (6 : Int32)), .val (.int (39 : Int32)), .unset, .unset] [(.int (46 : Int32))]) _
    refine go1 (fun _ => XS.bipush X0.here hx rfl (hb hby d2_18)) ?_
    show Go p.tables e below s₁ (mkF m 20 #[.val (.int p1), .val (.int (6 : Int32)), .val (.int (39 : Int32)), .unset, .unset] [(.int (8 : Int32)), (.int (46 : Int32))]) _
    refine go1 (fun _ => XS.iadd X0.here hx rfl (hb hby d2_20) rfl) ?_
    show Go p.tables e below s₁ (mkF m 21 #[.val (.int p1), .val (.int (6 : Int32)), .val (.int (39 : Int32)), .unset, .unset] [(.int (54 : Int32))]) _
    refine go1 (fun _ => XS.bipush X0.here hx rfl (hb hby d2_21)) ?_
    show Go p.tables e below s₁ (mkF m 23 #[.val (.int p1), .val (.int (6 : Int32)), .val (.int (39 : Int32)), .unset, .unset] [(.int (43 : Int32)), (.int (54 : Int32))]) _
    refine go1 (fun _ => XS.iadd X0.here hx rfl (hb hby d2_23) rfl) ?_
    show Go p.tables e below s₁ (mkF m 24 #[.val (.int p1), .val (.int (6 : Int32)), .val (.int (39 : Int32)), .unset, .unset] [(.int (97 : Int32))]) _
    refine go1 (fun _ => XS.iconst X0.here hx rfl (hb hby d2_24)) ?_
    show Go p.tables e below s₁ (mkF m 25 #[.val (.int p1), .val (.int (6 : Int32)), .val (.int (39 : Int32)), .unset, .unset] [(.int (3 : Int32)), (.int (97 : Int32))]) _
    refine go1 (fun _ => XS.iadd X0.here hx rfl (hb hby d2_25) rfl) ?_
    show Go p.tables e below s₁ (mkF m 26 #[.val (.int p1), .val (.int (6 : Int32)), .val (.int (39 : Int32)), .unset, .unset] [(.int (100 : Int32))]) _
    refine go1 (fun _ => XS.istoreN X0.here hx rfl (hb hby d2_26) rfl (l' := #[.val (.int p1), .val (.int (6 : Int32)), .val (.int (39 : Int32)), .val (.int (100 : Int32)), .unset]) rfl) ?_
    show Go p.tables e below s₁ (mkF m 27 #[.val (.int p1), .val (.int (6 : Int32)), .val (.int (39 : Int32)), .val (.int (100 : Int32)), .unset] []) _
    refine go1 (fun _ => XS.iconst X0.here hx rfl (hb hby d2_27)) ?_
    show Go p.tables e below s₁ (mkF m 28 #[.val (.int p1), .val (.int (6 : Int32)), .val (.int (39 : Int32)), .val (.int (100 : Int32)), .unset] [(.int (2 : Int32))]) _
    refine go1 (fun _ => XS.iloadN X0.here hx rfl (hb hby d2_28) rfl) ?_
    show Go p.tables e below s₁ (mkF m 29 #[.val (.int p1), .val (.int (6 : Int32)), .val (.int (39 : Int32)), .val (.int (100 : Int32)), .unset] [(.int (6 : Int32)), (.int (2 : Int32))]) _
    refine go1 (fun _ => XS.iadd X0.here hx rfl (hb hby d2_29) rfl) ?_
    show Go p.tables e below s₁ (mkF m 30 #[.val (.int p1), .val (.int (6 : Int32)), .val (.int (39 : Int32)), .val (.int (100 : Int32)), .unset] [(.int (8 : Int32))]) _
    refine go1 (fun _ => XS.iconst X0.here hx rfl (hb hby d2_30)) ?_
    show Go p.tables e below s₁ (mkF m 31 #[.val (.int p1), .val (.int (6 : Int32)), .val (.int (39 : Int32)), .val (.int (100 : Int32)), .unset] [(.int (2 : Int32)), (.int (8 : Int32))]) _
    refine go1 (fun _ => XS.iadd X0.here hx rfl (hb hby d2_31) rfl) ?_
    show Go p.tables e below s₁ (mkF m 32 #[.val (.int p1), .val (.int (6 : Int32)), .val (.int (39 : Int32)), .val (.int (100 : Int32)), .unset] [(.int (10 : Int32))]) _
    refine go1 (fun _ => XS.istore X0.here hx rfl (hb hby d2_32) rfl (l' := #[.val (.int p1), .val (.int (6 : Int32)), .val (.int (39 : Int32)), .val (.int (100 : Int32)), .val (.int (10 : Int32))]) rfl) ?_
    show Go p.tables e below s₁ (mkF m 34 #[.val (.int p1), .val (.int (6 : Int32)), .val (.int (39 : Int32)), .val (.int (100 : Int32)), .val (.int (10 : Int32))] []) _
    refine go1 (fun _ => XS.iloadN X0.here hx rfl (hb hby d2_34) rfl) ?_
    show Go p.tables e below s₁ (mkF m 35 #[.val (.int p1), .val (.int (6 : Int32)), .val (.int (39 : Int32)), .val (.int (100 : Int32)), .val (.int (10 : Int32))] [(.int (100 : Int32))]) _
    refine go1 (fun _ => XS.iload X0.here hx rfl (hb hby d2_35) rfl) ?_
    show Go p.tables e below s₁ (mkF m 37 #[.val (.int p1), .val (.int (6 : Int32)), .val (.int (39 : Int32)), .val (.int (100 : Int32)), .val (.int (10 : Int32))] [(.int (10 : Int32)), (.int (100 : Int32))]) _
    refine go1 (fun _ => XS.iadd X0.here hx rfl (hb hby d2_37) rfl) ?_
    show Go p.tables e below s₁ (mkF m 38 #[.val (.int p1), .val (.int (6 : Int32)), .val (.int (39 : Int32)), .val (.int (100 : Int32)), .val (.int (10 : Int32))] [(.int (110 : Int32))]) _
    refine goR X0 (BodyLoose.notSynchronized Bd) (v := (some (.int (110 : Int32)))) (fun h => by rw [Bd.returns] at h; cases h) (Q2 Z p1 h0 n0) (fun fs hr => retI X0 hx Bd.returns (hb hby d2_38) hr) (by decide) (by decide) ?_
    show Q2 Z p1 h0 n0 _ s₁.heap _
    rw [e0]
    exact ⟨(by rw [own_2, if_pos hc1]), N0, rfl⟩
  · skip
    refine go1 (fun _ => XS.ifNo X0.here hx rfl (hb hby d2_4) rfl ((if0 _ _).trans (feq hc1).1)) ?_
    show Go p.tables e below s₁ (mkF m 7 #[.val (.int p1), .val (.int (6 : Int32)), .unset, .unset, .unset] []) _
    refine go1 (fun _ => XS.bipush X0.here hx rfl (hb hby d2_7)) ?_
    show Go p.tables e below s₁ (mkF m 9 #[.val (.int p1), .val (.int (6 : Int32)), .unset, .unset, .unset] [(.int (12 : Int32))]) _
    refine go1 (fun _ => XS.istoreN X0.here hx rfl (hb hby d2_9) rfl (l' := #[.val (.int p1), .val (.int (12 : Int32)), .unset, .unset, .unset]) rfl) ?_
    show Go p.tables e below s₁ (mkF m 10 #[.val (.int p1), .val (.int (12 : Int32)), .unset, .unset, .unset] []) _
    refine go1 (fun _ => XS.bipush X0.here hx rfl (hb hby d2_10)) ?_
    show Go p.tables e below s₁ (mkF m 12 #[.val (.int p1), .val (.int (12 : Int32)), .unset, .unset, .unset] [(.int (39 : Int32))]) _
    refine go1 (fun _ => XS.istoreN X0.here hx rfl (hb hby d2_12) rfl (l' := #[.val (.int p1), .val (.int (12 : Int32)), .val (.int (39 : Int32)), .unset, .unset]) rfl) ?_
    show Go p.tables e below s₁ (mkF m 13 #[.val (.int p1), .val (.int (12 : Int32)), .val (.int (39 : Int32)), .unset, .unset] []) _
    refine go1 (fun _ => XS.iloadN X0.here hx rfl (hb hby d2_13) rfl) ?_
    show Go p.tables e below s₁ (mkF m 14 #[.val (.int p1), .val (.int (12 : Int32)), .val (.int (39 : Int32)), .unset, .unset] [(.int (39 : Int32))]) _
    refine go1 (fun _ => XS.iconst X0.here hx rfl (hb hby d2_14)) ?_
    show Go p.tables e below s₁ (mkF m 15 #[.val (.int p1), .val (.int (12 : Int32)), .val (.int (39 : Int32)), .unset, .unset] [(.int (1 : Int32)), (.int (39 : Int32))]) _
    refine go1 (fun _ => XS.iadd X0.here hx rfl (hb hby d2_15) rfl) ?_
    show Go p.tables e below s₁ (mkF m 16 #[.val (.int p1), .val (.int (12 : Int32)), .val (.int (39 : Int32)), .unset, .unset] [(.int (40 : Int32))]) _
    refine go1 (fun _ => XS.iloadN X0.here hx rfl (hb hby d2_16) rfl) ?_
    show Go p.tables e below s₁ (mkF m 17 #[.val (.int p1), .val (.int (12 : Int32)), .val (.int (39 : Int32)), .unset, .unset] [(.int (12 : Int32)), (.int (40 : Int32))]) _
    refine go1 (fun _ => XS.iadd X0.here hx rfl (hb hby d2_17) rfl) ?_
    show Go p.tables e below s₁ (mkF m 18 #[.val (.int p1), .val (.int (12 : Int32)), .val (.int (39 : Int32)), .unset, .unset] [(.int (52 : Int32))]) _
    refine go1 (fun _ => XS.bipush X0.here hx rfl (hb hby d2_18)) ?_
    show Go p.tables e below s₁ (mkF m 20 #[.val (.int p1), .val (.int (12 : Int32)), .val (.int (39 : Int32)), .unset, .unset] [(.int (8 : Int32)), (.int (52 : Int32))]) _
    refine go1 (fun _ => XS.iadd X0.here hx rfl (hb hby d2_20) rfl) ?_
    show Go p.tables e below s₁ (mkF m 21 #[.val (.int p1), .val (.int (12 : Int32)), .val (.int (39 : Int32)), .unset, .unset] [(.int (60 : Int32))]) _
    refine go1 (fun _ => XS.bipush X0.here hx rfl (hb hby d2_21)) ?_
    show Go p.tables e below s₁ (mkF m 23 #[.val (.int p1), .val (.int (12 : Int32)), .val (.int (39 : Int32)), .unset, .unset] [(.int (43 : Int32)), (.int (60 : Int32))]) _
    refine go1 (fun _ => XS.iadd X0.here hx rfl (hb hby d2_23) rfl) ?_
    show Go p.tables e below s₁ (mkF m 24 #[.val (.int p1), .val (.int (12 : Int32)), .val (.int (39 : Int32)), .unset, .unset] [(.int (103 : Int32))]) _
    refine go1 (fun _ => XS.iconst X0.here hx rfl (hb hby d2_24)) ?_
    show Go p.tables e below s₁ (mkF m 25 #[.val (.int p1), .val (.int (12 : Int32)), .val (.int (39 : Int32)), .unset, .unset] [(.int (3 : Int32)), (.int (103 : Int32))]) _
    refine go1 (fun _ => XS.iadd X0.here hx rfl (hb hby d2_25) rfl) ?_
    show Go p.tables e below s₁ (mkF m 26 #[.val (.int p1), .val (.int (12 : Int32)), .val (.int (39 : Int32)), .unset, .unset] [(.int (106 : Int32))]) _
    refine go1 (fun _ => XS.istoreN X0.here hx rfl (hb hby d2_26) rfl (l' := #[.val (.int p1), .val (.int (12 : Int32)), .val (.int (39 : Int32)), .val (.int (106 : Int32)), .unset]) rfl) ?_
    show Go p.tables e below s₁ (mkF m 27 #[.val (.int p1), .val (.int (12 : Int32)), .val (.int (39 : Int32)), .val (.int (106 : Int32)), .unset] []) _
    refine go1 (fun _ => XS.iconst X0.here hx rfl (hb hby d2_27)) ?_
    show Go p.tables e below s₁ (mkF m 28 #[.val (.int p1), .val (.int (12 : Int32)), .val (.int (39 : Int32)), .val (.int (106 : Int32)), .unset] [(.int (2 : Int32))]) _
    refine go1 (fun _ => XS.iloadN X0.here hx rfl (hb hby d2_28) rfl) ?_
    show Go p.tables e below s₁ (mkF m 29 #[.val (.int p1), .val (.int (12 : Int32)), .val (.int (39 : Int32)), .val (.int (106 : Int32)), .unset] [(.int (12 : Int32)), (.int (2 : Int32))]) _
    refine go1 (fun _ => XS.iadd X0.here hx rfl (hb hby d2_29) rfl) ?_
    show Go p.tables e below s₁ (mkF m 30 #[.val (.int p1), .val (.int (12 : Int32)), .val (.int (39 : Int32)), .val (.int (106 : Int32)), .unset] [(.int (14 : Int32))]) _
    refine go1 (fun _ => XS.iconst X0.here hx rfl (hb hby d2_30)) ?_
    show Go p.tables e below s₁ (mkF m 31 #[.val (.int p1), .val (.int (12 : Int32)), .val (.int (39 : Int32)), .val (.int (106 : Int32)), .unset] [(.int (2 : Int32)), (.int (14 : Int32))]) _
    refine go1 (fun _ => XS.iadd X0.here hx rfl (hb hby d2_31) rfl) ?_
    show Go p.tables e below s₁ (mkF m 32 #[.val (.int p1), .val (.int (12 : Int32)), .val (.int (39 : Int32)), .val (.int (106 : Int32)), .unset] [(.int (16 : Int32))]) _
    refine go1 (fun _ => XS.istore X0.here hx rfl (hb hby d2_32) rfl (l' := #[.val (.int p1), .val (.int (12 : Int32)), .val (.int (39 : Int32)), .val (.int (106 : Int32)), .val (.int (16 : Int32))]) rfl) ?_
    show Go p.tables e below s₁ (mkF m 34 #[.val (.int p1), .val (.int (12 : Int32)), .val (.int (39 : Int32)), .val (.int (106 : Int32)), .val (.int (16 : Int32))] []) _
    refine go1 (fun _ => XS.iloadN X0.here hx rfl (hb hby d2_34) rfl) ?_
    show Go p.tables e below s₁ (mkF m 35 #[.val (.int p1), .val (.int (12 : Int32)), .val (.int (39 : Int32)), .val (.int (106 : Int32)), .val (.int (16 : Int32))] [(.int (106 : Int32))]) _
    refine go1 (fun _ => XS.iload X0.here hx rfl (hb hby d2_35) rfl) ?_
    show Go p.tables e below s₁ (mkF m 37 #[.val (.int p1), .val (.int (12 : Int32)), .val (.int (39 : Int32)), .val (.int (106 : Int32)), .val (.int (16 : Int32))] [(.int (16 : Int32)), (.int (106 : Int32))]) _
    refine go1 (fun _ => XS.iadd X0.here hx rfl (hb hby d2_37) rfl) ?_
    show Go p.tables e below s₁ (mkF m 38 #[.val (.int p1), .val (.int (12 : Int32)), .val (.int (39 : Int32)), .val (.int (106 : Int32)), .val (.int (16 : Int32))] [(.int (122 : Int32))]) _
    refine goR X0 (BodyLoose.notSynchronized Bd) (v := (some (.int (122 : Int32)))) (fun h => by rw [Bd.returns] at h; cases h) (Q2 Z p1 h0 n0) (fun fs hr => retI X0 hx Bd.returns (hb hby d2_38) hr) (by decide) (by decide) ?_
    show Q2 Z p1 h0 n0 _ s₁.heap _
    rw [e0]
    exact ⟨(by rw [own_2, if_neg hc1]), N0, rfl⟩
theorem pn_0 : plainName "com/example/under50k/under50k/KindEmptySizePinLaw" = true := by first | (simp [plainName, overriddenIn]; done) | decide +kernel
theorem pd0_0 : parseMethodDescriptor "()I" = some ⟨[], some .int⟩ := by decide +kernel
theorem pd0_1 : parseMethodDescriptor "(Z)I" = some ⟨[.boolean], some .int⟩ := by decide +kernel
theorem ef_0 (m : MethodId) (p1 : Int32) : entryFrame m #[(.int p1)] maxLocals = mkF m 0 #[.val (.int p1), .unset, .unset] [] := by first | (simp [entryFrame, mkF, argsToLocals, Value.category, maxLocals]; done) | rfl
def own_0 (p1 : Int32) : Int32 :=
  if (p1 &&& (1 : Int32)) = (0 : Int32) then
    if ((100 : Int32) + (10 : Int32)) = (own_2 (0 : Int32)) then
      (1 : Int32)
    else
      (0 : Int32)
  else
    if ((106 : Int32) + (16 : Int32)) = (own_2 (1 : Int32)) then
      (1 : Int32)
    else
      (0 : Int32)
def Q0 (Z : State) (p1 : Int32) (a_SITEMAP : Addr) (a_INDEX : Addr) (a_SITEMAP_head : Addr) (a_SITEMAP_tail : Addr) (a_INDEX_head : Addr) (a_INDEX_tail : Addr) (h0 : Heap) (n0 : Nat) (v : Option Value) (h : Heap) (L : List Loc) : Prop := v = some (.int (own_0 p1)) ∧ Fr n0 L
set_option maxRecDepth 65536 in
set_option maxHeartbeats 40000000 in
theorem rm0 (l : Launch) (Z : State) (a0 : Array Value) (hw : ∀ d ∈ tables_1, d.before a0 Z = true) (ws : List Jvm.Cond) (p1 : Int32) (a_SITEMAP : Addr) (a_INDEX : Addr) (a_SITEMAP_head : Addr) (a_SITEMAP_tail : Addr) (a_INDEX_head : Addr) (a_INDEX_tail : Addr) (h0 : Heap) (n0 : Nat) (Z0 : n0 ≤ h0.size) (O0 : Old Z n0 h0) (S_SITEMAP : Sta Z Z.heap "com/example/under50k/under50k/SitemapFile$Kind" "SITEMAP" "Lcom/example/under50k/under50k/SitemapFile$Kind;" (.ref a_SITEMAP)) (ES_a_SITEMAP : Exa Z Z.heap a_SITEMAP "com/example/under50k/under50k/SitemapFile$Kind") (S_INDEX : Sta Z Z.heap "com/example/under50k/under50k/SitemapFile$Kind" "INDEX" "Lcom/example/under50k/under50k/SitemapFile$Kind;" (.ref a_INDEX)) (ES_a_INDEX : Exa Z Z.heap a_INDEX "com/example/under50k/under50k/SitemapFile$Kind") (FS_head_a_SITEMAP : Fld Z Z.heap a_SITEMAP "com/example/under50k/under50k/SitemapFile$Kind" "head" "[B" (.ref a_SITEMAP_head)) (AS_a_SITEMAP_head : ∃ cl : Cell, Arr Z Z.heap a_SITEMAP_head cl .byte ∧ cl.slots.size = ((100 : Int32)).toNatClampNeg ∧ ¬ (100 : Int32) < 0) (FS_tail_a_SITEMAP : Fld Z Z.heap a_SITEMAP "com/example/under50k/under50k/SitemapFile$Kind" "tail" "[B" (.ref a_SITEMAP_tail)) (AS_a_SITEMAP_tail : ∃ cl : Cell, Arr Z Z.heap a_SITEMAP_tail cl .byte ∧ cl.slots.size = ((10 : Int32)).toNatClampNeg ∧ ¬ (10 : Int32) < 0) (FS_head_a_INDEX : Fld Z Z.heap a_INDEX "com/example/under50k/under50k/SitemapFile$Kind" "head" "[B" (.ref a_INDEX_head)) (AS_a_INDEX_head : ∃ cl : Cell, Arr Z Z.heap a_INDEX_head cl .byte ∧ cl.slots.size = ((106 : Int32)).toNatClampNeg ∧ ¬ (106 : Int32) < 0) (FS_tail_a_INDEX : Fld Z Z.heap a_INDEX "com/example/under50k/under50k/SitemapFile$Kind" "tail" "[B" (.ref a_INDEX_tail)) (AS_a_INDEX_tail : ∃ cl : Cell, Arr Z Z.heap a_INDEX_tail cl .byte ∧ cl.slots.size = ((16 : Int32)).toNatClampNeg ∧ ¬ (16 : Int32) < 0) :
    MetFree l x (head1 (Jvm.Cond.code x code maxLocals ret :: ws) room_1) (fun a U => a = #[(.int p1)] ∧ Z.Warmed39 U.vm ∧ U.heap = h0) (fun _ _ _ _ _ => True) (fun _ U o U' => ∃ v L, o = .returned v ∧ Q0 Z p1 a_SITEMAP a_INDEX a_SITEMAP_head a_SITEMAP_tail a_INDEX_head a_INDEX_tail h0 n0 v U'.heap L ∧ FrameEnd U o U' L 0 0) := by
  refine MetFree.of_bodySF (plainFor_of_name pn_0) hisR ?_
  intro p e s m args below meth c s₁ Bd hml0 hP hK
  obtain ⟨rfl, hZ, hh⟩ := hP
  have hx := Bd.exec
  have hby := Bd.bytes
  have hml : c.maxLocals = 3 := hml0
  have hown : s.vm.findClass "com/example/under50k/under50k/KindEmptySizePinLaw" = some m.cls := findClass_of_methodNamed Bd.named
  have hnm := (name_of_methodNamed Bd.named Bd.method).1
  have X0 : Stand p l e room_1 s m #[(.int p1)] below meth c s₁ [] 0 0 := Stand.of_body Bd
  have e0 : s₁.heap = h0 := by rw [← hh, Bd.state]; rfl
  have N0 := Fr.nil n0
  refine goB (ef_0 m p1) ?_
  show Go p.tables e below s₁ (mkF m 0 #[.val (.int p1), .unset, .unset] []) _
  refine go1 (fun _ => XS.iloadN X0.here hx rfl (hb hby at_0) rfl) ?_
  show Go p.tables e below s₁ (mkF m 1 #[.val (.int p1), .unset, .unset] [(.int p1)]) _
  refine go1 (fun _ => XS.iconst X0.here hx rfl (hb hby at_1)) ?_
  show Go p.tables e below s₁ (mkF m 2 #[.val (.int p1), .unset, .unset] [(.int (1 : Int32)), (.int p1)]) _
  refine go1 (fun _ => XS.iand X0.here hx rfl (hb hby at_2) rfl) ?_
  show Go p.tables e below s₁ (mkF m 3 #[.val (.int p1), .unset, .unset] [(.int (p1 &&& (1 : Int32)))]) _
  by_cases hc1 : (p1 &&& (1 : Int32)) = (0 : Int32)
  · skip
    refine go1 (fun _ => XS.ifYes X0.here hx rfl (pc0 := 3) (pc' := 10) rfl (hb hby at_3) rfl ((if0 _ _).trans (teq hc1).1) (by decide) (by decide)) ?_
    show Go p.tables e below s₁ (mkF m 10 #[.val (.int p1), .unset, .unset] []) _
    refine go1 (fun _ => XS.iconst X0.here hx rfl (hb hby at_10)) ?_
    show Go p.tables e below s₁ (mkF m 11 #[.val (.int p1), .unset, .unset] [(.int (0 : Int32))]) _
    refine go1 (fun _ => XS.istoreN X0.here hx rfl (hb hby at_11) rfl (l' := #[.val (.int p1), .val (.int (0 : Int32)), .unset]) rfl) ?_
    show Go p.tables e below s₁ (mkF m 12 #[.val (.int p1), .val (.int (0 : Int32)), .unset] []) _
    obtain ⟨T2, X2, e2, st2⟩ := getS2 X0 hx hZ hown (host := "") (Or.inl (hw _ (List.mem_of_getElem? (i := 0) rfl))) Via.refl e0 (S_SITEMAP.ext O0.2) (g := (mkF m 12 #[.val (.int p1), .val (.int (0 : Int32)), .unset] [])) rfl (hb hby at_12)
    refine go1 st2 ?_
    show Go p.tables e below T2 (mkF m 15 #[.val (.int p1), .val (.int (0 : Int32)), .unset] [(.ref a_SITEMAP)]) _
    refine go1 (fun _ => XS.astoreN X2.here hx rfl (hb hby at_15) rfl rfl (l' := #[.val (.int p1), .val (.int (0 : Int32)), .val (.ref a_SITEMAP)]) rfl) ?_
    show Go p.tables e below T2 (mkF m 16 #[.val (.int p1), .val (.int (0 : Int32)), .val (.ref a_SITEMAP)] []) _
    refine go1 (fun _ => XS.iloadN X2.here hx rfl (hb hby at_16) rfl) ?_
    show Go p.tables e below T2 (mkF m 17 #[.val (.int p1), .val (.int (0 : Int32)), .val (.ref a_SITEMAP)] [(.int (0 : Int32))]) _
    refine go1 (fun _ => XS.ifYes X2.here hx rfl (pc0 := 17) (pc' := 24) rfl (hb hby at_17) rfl ((if0 _ _).trans (teq (by decide : (0 : Int32) = (0 : Int32))).1) (by decide) (by decide)) ?_
    show Go p.tables e below T2 (mkF m 24 #[.val (.int p1), .val (.int (0 : Int32)), .val (.ref a_SITEMAP)] []) _
    refine go1 (fun _ => XS.aloadN X2.here hx rfl (hb hby at_24) rfl rfl) ?_
    show Go p.tables e below T2 (mkF m 25 #[.val (.int p1), .val (.int (0 : Int32)), .val (.ref a_SITEMAP)] [(.ref a_SITEMAP)]) _
    obtain ⟨cq3, kq3, q3a, q3b, q3c⟩ := isOf hZ e2 (ES_a_SITEMAP.ext O0.2)
    obtain ⟨_, _, ⟨T3, L3, k3, n3⟩, -, X3, ⟨Lc3, hQ3, l3, y3, z3⟩, st3⟩ := X2.virtualBack hx (y := (⟨"com/example/under50k/under50k/SitemapFile$Kind", "emptySize", "()I"⟩ : MethodName)) (z := (⟨"com/example/under50k/under50k/SitemapFile$Kind", "emptySize", "()I"⟩ : MethodName)) hown (mvT hZ (hw _ (List.mem_of_getElem? (i := 3) rfl))) (mvT hZ (hw _ (List.mem_of_getElem? (i := 4) rfl))) (notFace_of_selects (args := #[]) (mvT hZ (hw _ (List.mem_of_getElem? (i := 6) rfl)))) (mvT hZ (hw _ (List.mem_of_getElem? (i := 6) rfl))) (mvT hZ (hw _ (List.mem_of_getElem? (i := 5) rfl))) (by decide) (backOf (W := 0) (rm1 l Z a0 hw [] a_SITEMAP a_SITEMAP_head a_SITEMAP_tail (100 : Int32) (10 : Int32) h0 n0 Z0 O0 (FS_head_a_SITEMAP.ext O0.2) (FS_tail_a_SITEMAP.ext O0.2) AS_a_SITEMAP_head AS_a_SITEMAP_tail) hZ (hw _ (List.mem_of_getElem? (i := 7) rfl)) (hw _ (List.mem_of_getElem? (i := 1) rfl)) (by decide) (by decide)) q3a q3c (g := (mkF m 25 #[.val (.int p1), .val (.int (0 : Int32)), .val (.ref a_SITEMAP)] [(.ref a_SITEMAP)])) rfl (by rw [hml]; rfl) (Steps.refl _) (argsL := []) (rest := []) (lenOf pd0_0 rfl) rfl (by show 2 * 0 + _ ≤ _; exact Nat.le_of_eq rfl) (hb hby at_25) (fun _ _ => ⟨rfl, e2, (by decide : 0 + 0 ≤ _), (by decide : 0 + 0 ≤ _)⟩)
    dsimp only [Pt.U, Pt.locs, Pt.cells, Pt.slots] at X3 l3 y3 z3 st3 hQ3
    subst l3 y3 z3
    obtain ⟨rfl, N3q, e3⟩ := hQ3
    have N3 := Fr.app N0 N3q
    refine goT st3 ?_
    show Go p.tables e below T3 (mkF m 28 #[.val (.int p1), .val (.int (0 : Int32)), .val (.ref a_SITEMAP)] [(.int ((100 : Int32) + (10 : Int32)))]) _
    refine go1 (fun _ => XS.iloadN X3.here hx rfl (hb hby at_28) rfl) ?_
    show Go p.tables e below T3 (mkF m 29 #[.val (.int p1), .val (.int (0 : Int32)), .val (.ref a_SITEMAP)] [(.int (0 : Int32)), (.int ((100 : Int32) + (10 : Int32)))]) _
    obtain ⟨_, _, ⟨T4, L4, k4, n4⟩, -, X4, ⟨Lc4, hQ4, l4, y4, z4⟩, st4⟩ := Jvm.LawKit.callS X3 hx (y := (⟨"com/example/under50k/under50k/KindEmptySizePinLaw", "expected", "(Z)I"⟩ : MethodName)) hown (mvT hZ (hw _ (List.mem_of_getElem? (i := 12) rfl))) (mvT hZ (hw _ (List.mem_of_getElem? (i := 13) rfl))) (mvT hZ (hw _ (List.mem_of_getElem? (i := 14) rfl))) (mvT hZ (hw _ (List.mem_of_getElem? (i := 15) rfl))) (by decide) (backOf (W := 1) (rm2 l Z a0 hw [] (0 : Int32) h0 n0 Z0 ) hZ (hw _ (List.mem_of_getElem? (i := 15) rfl)) (hw _ (List.mem_of_getElem? (i := 14) rfl)) (by decide) (by decide)) (g := (mkF m 29 #[.val (.int p1), .val (.int (0 : Int32)), .val (.ref a_SITEMAP)] [(.int (0 : Int32)), (.int ((100 : Int32) + (10 : Int32)))])) rfl (by rw [hml]; rfl) (argsL := [(.int (0 : Int32))]) (rest := [(.int ((100 : Int32) + (10 : Int32)))]) (lenOf pd0_1 rfl) rfl (by show 2 * 0 + _ ≤ _; exact Nat.le_of_eq rfl) (hb hby at_29) (fun _ _ => ⟨rfl, e3, (by decide : 0 + 0 ≤ _), (by decide : 0 + 0 ≤ _)⟩)
    dsimp only [Pt.U, Pt.locs, Pt.cells, Pt.slots] at X4 l4 y4 z4 st4 hQ4
    subst l4 y4 z4
    obtain ⟨rfl, N4q, e4⟩ := hQ4
    have N4 := Fr.app N3 N4q
    refine go1 st4 ?_
    show Go p.tables e below T4 (mkF m 32 #[.val (.int p1), .val (.int (0 : Int32)), .val (.ref a_SITEMAP)] [(.int (own_2 (0 : Int32))), (.int ((100 : Int32) + (10 : Int32)))]) _
    by_cases hc5 : ((100 : Int32) + (10 : Int32)) = (own_2 (0 : Int32))
    · skip
      refine go1 (fun _ => XS.icmpNo X4.here hx rfl (hb hby at_32) rfl (teq hc5).2) ?_
      show Go p.tables e below T4 (mkF m 35 #[.val (.int p1), .val (.int (0 : Int32)), .val (.ref a_SITEMAP)] []) _
      refine go1 (fun _ => XS.iconst X4.here hx rfl (hb hby at_35)) ?_
      show Go p.tables e below T4 (mkF m 36 #[.val (.int p1), .val (.int (0 : Int32)), .val (.ref a_SITEMAP)] [(.int (1 : Int32))]) _
      refine go1 (fun _ => XS.goto X4.here hx rfl (pc0 := 36) (pc' := 40) rfl (hb hby at_36) (by decide) (by decide)) ?_
      show Go p.tables e below T4 (mkF m 40 #[.val (.int p1), .val (.int (0 : Int32)), .val (.ref a_SITEMAP)] [(.int (1 : Int32))]) _
      refine goR X4 (BodyLoose.notSynchronized Bd) (v := (some (.int (1 : Int32)))) (fun h => by rw [Bd.returns] at h; cases h) (Q0 Z p1 a_SITEMAP a_INDEX a_SITEMAP_head a_SITEMAP_tail a_INDEX_head a_INDEX_tail h0 n0) (fun fs hr => retN X4 hx (t := .boolean) Bd.returns (by simp) (hb hby at_40) hr) (by decide) (by decide) ?_
      show Q0 Z p1 a_SITEMAP a_INDEX a_SITEMAP_head a_SITEMAP_tail a_INDEX_head a_INDEX_tail h0 n0 _ T4.heap _
      rw [e4]
      exact ⟨(by rw [own_0, if_pos hc1, if_pos hc5]), N4⟩
    · skip
      refine go1 (fun _ => XS.icmpYes X4.here hx rfl (pc0 := 32) (pc' := 39) rfl (hb hby at_32) rfl (feq hc5).2 (by decide) (by decide)) ?_
      show Go p.tables e below T4 (mkF m 39 #[.val (.int p1), .val (.int (0 : Int32)), .val (.ref a_SITEMAP)] []) _
      refine go1 (fun _ => XS.iconst X4.here hx rfl (hb hby at_39)) ?_
      show Go p.tables e below T4 (mkF m 40 #[.val (.int p1), .val (.int (0 : Int32)), .val (.ref a_SITEMAP)] [(.int (0 : Int32))]) _
      refine goR X4 (BodyLoose.notSynchronized Bd) (v := (some (.int (0 : Int32)))) (fun h => by rw [Bd.returns] at h; cases h) (Q0 Z p1 a_SITEMAP a_INDEX a_SITEMAP_head a_SITEMAP_tail a_INDEX_head a_INDEX_tail h0 n0) (fun fs hr => retN X4 hx (t := .boolean) Bd.returns (by simp) (hb hby at_40) hr) (by decide) (by decide) ?_
      show Q0 Z p1 a_SITEMAP a_INDEX a_SITEMAP_head a_SITEMAP_tail a_INDEX_head a_INDEX_tail h0 n0 _ T4.heap _
      rw [e4]
      exact ⟨(by rw [own_0, if_pos hc1, if_neg hc5]), N4⟩
  · skip
    refine go1 (fun _ => XS.ifNo X0.here hx rfl (hb hby at_3) rfl ((if0 _ _).trans (feq hc1).1)) ?_
    show Go p.tables e below s₁ (mkF m 6 #[.val (.int p1), .unset, .unset] []) _
    refine go1 (fun _ => XS.iconst X0.here hx rfl (hb hby at_6)) ?_
    show Go p.tables e below s₁ (mkF m 7 #[.val (.int p1), .unset, .unset] [(.int (1 : Int32))]) _
    refine go1 (fun _ => XS.goto X0.here hx rfl (pc0 := 7) (pc' := 11) rfl (hb hby at_7) (by decide) (by decide)) ?_
    show Go p.tables e below s₁ (mkF m 11 #[.val (.int p1), .unset, .unset] [(.int (1 : Int32))]) _
    refine go1 (fun _ => XS.istoreN X0.here hx rfl (hb hby at_11) rfl (l' := #[.val (.int p1), .val (.int (1 : Int32)), .unset]) rfl) ?_
    show Go p.tables e below s₁ (mkF m 12 #[.val (.int p1), .val (.int (1 : Int32)), .unset] []) _
    obtain ⟨T6, X6, e6, st6⟩ := getS2 X0 hx hZ hown (host := "") (Or.inl (hw _ (List.mem_of_getElem? (i := 0) rfl))) Via.refl e0 (S_SITEMAP.ext O0.2) (g := (mkF m 12 #[.val (.int p1), .val (.int (1 : Int32)), .unset] [])) rfl (hb hby at_12)
    refine go1 st6 ?_
    show Go p.tables e below T6 (mkF m 15 #[.val (.int p1), .val (.int (1 : Int32)), .unset] [(.ref a_SITEMAP)]) _
    refine go1 (fun _ => XS.astoreN X6.here hx rfl (hb hby at_15) rfl rfl (l' := #[.val (.int p1), .val (.int (1 : Int32)), .val (.ref a_SITEMAP)]) rfl) ?_
    show Go p.tables e below T6 (mkF m 16 #[.val (.int p1), .val (.int (1 : Int32)), .val (.ref a_SITEMAP)] []) _
    refine go1 (fun _ => XS.iloadN X6.here hx rfl (hb hby at_16) rfl) ?_
    show Go p.tables e below T6 (mkF m 17 #[.val (.int p1), .val (.int (1 : Int32)), .val (.ref a_SITEMAP)] [(.int (1 : Int32))]) _
    refine go1 (fun _ => XS.ifNo X6.here hx rfl (hb hby at_17) rfl ((if0 _ _).trans (feq (by decide : ¬ ((1 : Int32) = (0 : Int32)))).1)) ?_
    show Go p.tables e below T6 (mkF m 20 #[.val (.int p1), .val (.int (1 : Int32)), .val (.ref a_SITEMAP)] []) _
    obtain ⟨T7, X7, e7, st7⟩ := getS2 X6 hx hZ hown (host := "") (Or.inl (hw _ (List.mem_of_getElem? (i := 16) rfl))) Via.refl e6 (S_INDEX.ext O0.2) (g := (mkF m 20 #[.val (.int p1), .val (.int (1 : Int32)), .val (.ref a_SITEMAP)] [])) rfl (hb hby at_20)
    refine go1 st7 ?_
    show Go p.tables e below T7 (mkF m 23 #[.val (.int p1), .val (.int (1 : Int32)), .val (.ref a_SITEMAP)] [(.ref a_INDEX)]) _
    refine go1 (fun _ => XS.astoreN X7.here hx rfl (hb hby at_23) rfl rfl (l' := #[.val (.int p1), .val (.int (1 : Int32)), .val (.ref a_INDEX)]) rfl) ?_
    show Go p.tables e below T7 (mkF m 24 #[.val (.int p1), .val (.int (1 : Int32)), .val (.ref a_INDEX)] []) _
    refine go1 (fun _ => XS.aloadN X7.here hx rfl (hb hby at_24) rfl rfl) ?_
    show Go p.tables e below T7 (mkF m 25 #[.val (.int p1), .val (.int (1 : Int32)), .val (.ref a_INDEX)] [(.ref a_INDEX)]) _
    obtain ⟨cq8, kq8, q8a, q8b, q8c⟩ := isOf hZ e7 (ES_a_INDEX.ext O0.2)
    obtain ⟨_, _, ⟨T8, L8, k8, n8⟩, -, X8, ⟨Lc8, hQ8, l8, y8, z8⟩, st8⟩ := X7.virtualBack hx (y := (⟨"com/example/under50k/under50k/SitemapFile$Kind", "emptySize", "()I"⟩ : MethodName)) (z := (⟨"com/example/under50k/under50k/SitemapFile$Kind", "emptySize", "()I"⟩ : MethodName)) hown (mvT hZ (hw _ (List.mem_of_getElem? (i := 3) rfl))) (mvT hZ (hw _ (List.mem_of_getElem? (i := 4) rfl))) (notFace_of_selects (args := #[]) (mvT hZ (hw _ (List.mem_of_getElem? (i := 6) rfl)))) (mvT hZ (hw _ (List.mem_of_getElem? (i := 6) rfl))) (mvT hZ (hw _ (List.mem_of_getElem? (i := 5) rfl))) (by decide) (backOf (W := 0) (rm1 l Z a0 hw [] a_INDEX a_INDEX_head a_INDEX_tail (106 : Int32) (16 : Int32) h0 n0 Z0 O0 (FS_head_a_INDEX.ext O0.2) (FS_tail_a_INDEX.ext O0.2) AS_a_INDEX_head AS_a_INDEX_tail) hZ (hw _ (List.mem_of_getElem? (i := 7) rfl)) (hw _ (List.mem_of_getElem? (i := 1) rfl)) (by decide) (by decide)) q8a q8c (g := (mkF m 25 #[.val (.int p1), .val (.int (1 : Int32)), .val (.ref a_INDEX)] [(.ref a_INDEX)])) rfl (by rw [hml]; rfl) (Steps.refl _) (argsL := []) (rest := []) (lenOf pd0_0 rfl) rfl (by show 2 * 0 + _ ≤ _; exact Nat.le_of_eq rfl) (hb hby at_25) (fun _ _ => ⟨rfl, e7, (by decide : 0 + 0 ≤ _), (by decide : 0 + 0 ≤ _)⟩)
    dsimp only [Pt.U, Pt.locs, Pt.cells, Pt.slots] at X8 l8 y8 z8 st8 hQ8
    subst l8 y8 z8
    obtain ⟨rfl, N8q, e8⟩ := hQ8
    have N8 := Fr.app N0 N8q
    refine goT st8 ?_
    show Go p.tables e below T8 (mkF m 28 #[.val (.int p1), .val (.int (1 : Int32)), .val (.ref a_INDEX)] [(.int ((106 : Int32) + (16 : Int32)))]) _
    refine go1 (fun _ => XS.iloadN X8.here hx rfl (hb hby at_28) rfl) ?_
    show Go p.tables e below T8 (mkF m 29 #[.val (.int p1), .val (.int (1 : Int32)), .val (.ref a_INDEX)] [(.int (1 : Int32)), (.int ((106 : Int32) + (16 : Int32)))]) _
    obtain ⟨_, _, ⟨T9, L9, k9, n9⟩, -, X9, ⟨Lc9, hQ9, l9, y9, z9⟩, st9⟩ := Jvm.LawKit.callS X8 hx (y := (⟨"com/example/under50k/under50k/KindEmptySizePinLaw", "expected", "(Z)I"⟩ : MethodName)) hown (mvT hZ (hw _ (List.mem_of_getElem? (i := 12) rfl))) (mvT hZ (hw _ (List.mem_of_getElem? (i := 13) rfl))) (mvT hZ (hw _ (List.mem_of_getElem? (i := 14) rfl))) (mvT hZ (hw _ (List.mem_of_getElem? (i := 15) rfl))) (by decide) (backOf (W := 1) (rm2 l Z a0 hw [] (1 : Int32) h0 n0 Z0 ) hZ (hw _ (List.mem_of_getElem? (i := 15) rfl)) (hw _ (List.mem_of_getElem? (i := 14) rfl)) (by decide) (by decide)) (g := (mkF m 29 #[.val (.int p1), .val (.int (1 : Int32)), .val (.ref a_INDEX)] [(.int (1 : Int32)), (.int ((106 : Int32) + (16 : Int32)))])) rfl (by rw [hml]; rfl) (argsL := [(.int (1 : Int32))]) (rest := [(.int ((106 : Int32) + (16 : Int32)))]) (lenOf pd0_1 rfl) rfl (by show 2 * 0 + _ ≤ _; exact Nat.le_of_eq rfl) (hb hby at_29) (fun _ _ => ⟨rfl, e8, (by decide : 0 + 0 ≤ _), (by decide : 0 + 0 ≤ _)⟩)
    dsimp only [Pt.U, Pt.locs, Pt.cells, Pt.slots] at X9 l9 y9 z9 st9 hQ9
    subst l9 y9 z9
    obtain ⟨rfl, N9q, e9⟩ := hQ9
    have N9 := Fr.app N8 N9q
    refine go1 st9 ?_
    show Go p.tables e below T9 (mkF m 32 #[.val (.int p1), .val (.int (1 : Int32)), .val (.ref a_INDEX)] [(.int (own_2 (1 : Int32))), (.int ((106 : Int32) + (16 : Int32)))]) _
    by_cases hc10 : ((106 : Int32) + (16 : Int32)) = (own_2 (1 : Int32))
    · skip
      refine go1 (fun _ => XS.icmpNo X9.here hx rfl (hb hby at_32) rfl (teq hc10).2) ?_
      show Go p.tables e below T9 (mkF m 35 #[.val (.int p1), .val (.int (1 : Int32)), .val (.ref a_INDEX)] []) _
      refine go1 (fun _ => XS.iconst X9.here hx rfl (hb hby at_35)) ?_
      show Go p.tables e below T9 (mkF m 36 #[.val (.int p1), .val (.int (1 : Int32)), .val (.ref a_INDEX)] [(.int (1 : Int32))]) _
      refine go1 (fun _ => XS.goto X9.here hx rfl (pc0 := 36) (pc' := 40) rfl (hb hby at_36) (by decide) (by decide)) ?_
      show Go p.tables e below T9 (mkF m 40 #[.val (.int p1), .val (.int (1 : Int32)), .val (.ref a_INDEX)] [(.int (1 : Int32))]) _
      refine goR X9 (BodyLoose.notSynchronized Bd) (v := (some (.int (1 : Int32)))) (fun h => by rw [Bd.returns] at h; cases h) (Q0 Z p1 a_SITEMAP a_INDEX a_SITEMAP_head a_SITEMAP_tail a_INDEX_head a_INDEX_tail h0 n0) (fun fs hr => retN X9 hx (t := .boolean) Bd.returns (by simp) (hb hby at_40) hr) (by decide) (by decide) ?_
      show Q0 Z p1 a_SITEMAP a_INDEX a_SITEMAP_head a_SITEMAP_tail a_INDEX_head a_INDEX_tail h0 n0 _ T9.heap _
      rw [e9]
      exact ⟨(by rw [own_0, if_neg hc1, if_pos hc10]), N9⟩
    · skip
      refine go1 (fun _ => XS.icmpYes X9.here hx rfl (pc0 := 32) (pc' := 39) rfl (hb hby at_32) rfl (feq hc10).2 (by decide) (by decide)) ?_
      show Go p.tables e below T9 (mkF m 39 #[.val (.int p1), .val (.int (1 : Int32)), .val (.ref a_INDEX)] []) _
      refine go1 (fun _ => XS.iconst X9.here hx rfl (hb hby at_39)) ?_
      show Go p.tables e below T9 (mkF m 40 #[.val (.int p1), .val (.int (1 : Int32)), .val (.ref a_INDEX)] [(.int (0 : Int32))]) _
      refine goR X9 (BodyLoose.notSynchronized Bd) (v := (some (.int (0 : Int32)))) (fun h => by rw [Bd.returns] at h; cases h) (Q0 Z p1 a_SITEMAP a_INDEX a_SITEMAP_head a_SITEMAP_tail a_INDEX_head a_INDEX_tail h0 n0) (fun fs hr => retN X9 hx (t := .boolean) Bd.returns (by simp) (hb hby at_40) hr) (by decide) (by decide) ?_
      show Q0 Z p1 a_SITEMAP a_INDEX a_SITEMAP_head a_SITEMAP_tail a_INDEX_head a_INDEX_tail h0 n0 _ T9.heap _
      rw [e9]
      exact ⟨(by rw [own_0, if_neg hc1, if_neg hc10]), N9⟩
theorem own_true (x : Int32) (a_SITEMAP a_INDEX a_SITEMAP_head a_SITEMAP_tail a_INDEX_head a_INDEX_tail : Addr) : own_0 x = 1 := by
  unfold own_0
  split <;> decide
set_option maxRecDepth 65536 in
set_option maxHeartbeats 40000000 in
theorem comes_1 {Post : Tables → Env → Array Value → State → Outcome → State → Prop} (hpost : ∀ tb e args s v u, (limb_1_1.after args s (.returned v) u = true ∧ limb_1_2.after args s (.returned v) u = true ∧ True) → FrameEnd s (.returned v) u (Jvm.fieldLocs frame_1_writes args s ++ Jvm.arrayLocs frame_1_arrays args s ++ Jvm.staticLocs frame_1_statics s) 0 0 → Post tb e args s (.returned v) u) :
    ArmFor flags0 classFile x code maxLocals ret World_1 tables_1 room_1 Calls_1 rest_1 Pre_1 Post := by
  intro l hfl _ _ p e ha hc hk s m args below hf hA hF happ hP
  obtain ⟨hcalls, hrest, hpre⟩ := hP
  obtain ⟨-, -, -, hnamed, -, -, -, hat⟩ := (Spec.applies_iff hf).mp happ
  obtain ⟨hg, hn⟩ := and_e (Cond.before_iff.mp (show (Jvm.Cond.and given_1 narrow_1).before args s = true from hpre))
  obtain ⟨gc, q0⟩ := and_e hg
  have ga0 := q0
  obtain ⟨w0, rfl⟩ : ∃ w0 : Value, args = #[w0] := by
    have hs : args.size = 1 := by simpa [Cond.value, given_1] using gc
    obtain ⟨L⟩ := args
    match L, hs with
    | [w0], _ => exact ⟨w0, rfl⟩
  have hw := fun d (hd : d ∈ tables_1) => atoms_spec (ws := Jvm.Cond.code x code maxLocals ret :: tables_1) hat d (List.mem_cons_of_mem _ hd)
  have hfit : Fit s := fun {y c} hc i hi => by
    obtain ⟨ha, rfl⟩ := Array.getElem?_eq_some_iff.mp hc
    have q := List.all_eq_true.mp ((Array.all_eq_true_iff_forall_mem.mp hF) _ (Array.getElem_mem ha)) i (List.mem_range.mpr hi)
    simpa [Array.getElem?_eq_getElem hi] using q
  obtain ⟨i0, ei0⟩ := is_v ga0
  obtain rfl : w0 = (.int i0) := Option.some.inj ei0
  obtain ⟨nq1a, nq1b⟩ := and_e hn
  obtain ⟨nq2a, nq2b⟩ := and_e nq1b
  obtain ⟨nq3a, nq3b⟩ := and_e nq2b
  obtain ⟨nq4a, nq4b⟩ := and_e nq3b
  obtain ⟨nq5a, nq5b⟩ := and_e nq4b
  obtain ⟨nq6a, nq6b⟩ := and_e nq5b
  obtain ⟨nq7a, nq7b⟩ := and_e nq6b
  obtain ⟨nq8a, nq8b⟩ := and_e nq7b
  obtain ⟨nq9a, nq9b⟩ := and_e nq8b
  obtain ⟨a_SITEMAP, ev_a_SITEMAP⟩ := exa_v nq1a
  have S_a_SITEMAP := Sta.start ev_a_SITEMAP (Or.inr ⟨(hw _ (List.mem_of_getElem? (i := 1) rfl)), (hw _ (List.mem_of_getElem? (i := 2) rfl))⟩)
  have ES_a_SITEMAP := Exa.start ev_a_SITEMAP nq1a
  obtain ⟨a_INDEX, ev_a_INDEX⟩ := exa_v nq6a
  have S_a_INDEX := Sta.start ev_a_INDEX (Or.inr ⟨(hw _ (List.mem_of_getElem? (i := 1) rfl)), (hw _ (List.mem_of_getElem? (i := 17) rfl))⟩)
  have ES_a_INDEX := Exa.start ev_a_INDEX nq6a
  obtain ⟨a_SITEMAP_head, ev_a_SITEMAP_head⟩ := arr_v nq2a
  have FS_head_a_SITEMAP := Fld.start ((fld_at ev_a_SITEMAP).symm.trans ev_a_SITEMAP_head)
  have AS_a_SITEMAP_head : ∃ cl : Cell, Arr s s.heap a_SITEMAP_head cl .byte ∧ cl.slots.size = ((100 : Int32)).toNatClampNeg ∧ ¬ (100 : Int32) < 0 := by
    obtain ⟨cl, Ar⟩ := Arr.start ev_a_SITEMAP_head nq2a
    have q := lenS ev_a_SITEMAP_head Ar (eqv_i (Term.int_eval (100 : Int32)) nq3a)
    exact ⟨cl, Ar, q.2.2.1, q.2.2.2⟩
  obtain ⟨a_SITEMAP_tail, ev_a_SITEMAP_tail⟩ := arr_v nq4a
  have FS_tail_a_SITEMAP := Fld.start ((fld_at ev_a_SITEMAP).symm.trans ev_a_SITEMAP_tail)
  have AS_a_SITEMAP_tail : ∃ cl : Cell, Arr s s.heap a_SITEMAP_tail cl .byte ∧ cl.slots.size = ((10 : Int32)).toNatClampNeg ∧ ¬ (10 : Int32) < 0 := by
    obtain ⟨cl, Ar⟩ := Arr.start ev_a_SITEMAP_tail nq4a
    have q := lenS ev_a_SITEMAP_tail Ar (eqv_i (Term.int_eval (10 : Int32)) nq5a)
    exact ⟨cl, Ar, q.2.2.1, q.2.2.2⟩
  obtain ⟨a_INDEX_head, ev_a_INDEX_head⟩ := arr_v nq7a
  have FS_head_a_INDEX := Fld.start ((fld_at ev_a_INDEX).symm.trans ev_a_INDEX_head)
  have AS_a_INDEX_head : ∃ cl : Cell, Arr s s.heap a_INDEX_head cl .byte ∧ cl.slots.size = ((106 : Int32)).toNatClampNeg ∧ ¬ (106 : Int32) < 0 := by
    obtain ⟨cl, Ar⟩ := Arr.start ev_a_INDEX_head nq7a
    have q := lenS ev_a_INDEX_head Ar (eqv_i (Term.int_eval (106 : Int32)) nq8a)
    exact ⟨cl, Ar, q.2.2.1, q.2.2.2⟩
  obtain ⟨a_INDEX_tail, ev_a_INDEX_tail⟩ := arr_v nq9a
  have FS_tail_a_INDEX := Fld.start ((fld_at ev_a_INDEX).symm.trans ev_a_INDEX_tail)
  have AS_a_INDEX_tail : ∃ cl : Cell, Arr s s.heap a_INDEX_tail cl .byte ∧ cl.slots.size = ((16 : Int32)).toNatClampNeg ∧ ¬ (16 : Int32) < 0 := by
    obtain ⟨cl, Ar⟩ := Arr.start ev_a_INDEX_tail nq9a
    have q := lenS ev_a_INDEX_tail Ar (eqv_i (Term.int_eval (16 : Int32)) nq9b)
    exact ⟨cl, Ar, q.2.2.1, q.2.2.2⟩
  obtain ⟨n, o, h1, h2, h3, _, L, rfl, ⟨hv, N⟩, hq⟩ := rm0 l s _ hw tables_1 i0 a_SITEMAP a_INDEX a_SITEMAP_head a_SITEMAP_tail a_INDEX_head a_INDEX_tail s.heap s.heap.size (Nat.le_refl _) (Old.start s) S_a_SITEMAP ES_a_SITEMAP S_a_INDEX ES_a_INDEX FS_head_a_SITEMAP AS_a_SITEMAP_head FS_tail_a_SITEMAP AS_a_SITEMAP_tail FS_head_a_INDEX AS_a_INDEX_head FS_tail_a_INDEX AS_a_INDEX_tail p e ha hc hk s m _ below hf ((Spec.applies_iff_loose hf).mp happ).1 ⟨rfl, State.Warmed39.refl s, rfl⟩ trivial
  rw [own_true _ a_SITEMAP a_INDEX a_SITEMAP_head a_SITEMAP_tail a_INDEX_head a_INDEX_tail] at hv
  subst hv
  refine ⟨n, _, h1, h2, h3, hpost _ _ _ _ _ _ ⟨Cond.after_iff.mpr rfl, Cond.after_iff.mpr (eq_i res_at (Term.int_eval (1)) rfl), trivial⟩ ⟨hq.1, hq.2.1, (hq.2.2.sift fun y hy => Or.inr (N y hy)).mono (by decide) (by decide)⟩⟩
theorem main_1_1 : Claimed_1_1 := comes_1 fun _ _ _ _ _ _ h hF => ⟨h.1, hF⟩
theorem main_1_2 : Claimed_1_2 := comes_1 fun _ _ _ _ _ _ h hF => ⟨h.2.1, hF⟩
end Jvm.Pilot.@@N@@
namespace Jvm.Pilot.@@N@@
open Jvm Jvm.ClassFile Sem Op Lib Jvm.Free Jvm.Stand Jvm.Pilot.@@N@@.Jvm.D
/-! MADE BY PROGRAM (witnessworld.py) out of the Statement's table words and the real class files: 12 classes; the members and pool entries that the words name. The judged class is class 1, her method 2. -/
namespace start1
open Jvm.ClassFile
def u (s : String) : CpInfo := .utf8 (stringToUtf16 s)
/-- a pool by its gaps: so many unusable entries, then the entry; so many at the end -/
def gap : Nat → List CpInfo → List CpInfo
  | 0, r => r
  | n + 1, r => .unusable :: gap n r
def poolList (es : List (Nat × CpInfo)) (last : Nat) : List CpInfo := es.foldr (fun e r => gap e.1 (e.2 :: r)) (gap last [])
def pool (es : List (Nat × CpInfo)) (last : Nat) : Array CpInfo := ⟨poolList es last⟩
def fileOf (pool : Array CpInfo) (this : Nat) (attrs : Array Attribute := #[]) (ms : Array MethodInfo := #[]) (fl : Nat := 33) (sup : Nat := 0) (ifs : Array Nat := #[]) (fds : Array FieldInfo := #[]) : ClassFile where
  minorVersion := 0
  majorVersion := 65
  constantPool := pool
  accessFlags := fl
  thisClass := this
  superClass := sup
  interfaces := ifs
  fields := fds
  methods := ms
  attributes := attrs
def plain (name : String) (sup : Option ClassId) : Class where
  name := name
  kind := .ordinary
  loader := none
  accessFlags := 33
  super := sup
  interfaces := #[]
  cf := none
  fields := #[]
  methods := #[]
  instanceTypes := #[]
  staticTypes := #[]
  resolved := #[]
  callSites := []
  init := .initialized
  statics := none
  mirror := none

def pool0 : Array CpInfo := pool [(5, u "<init>"), (0, u "()V"), (1, .class_ 10), (1, u "java/lang/Object")] 113

def k0m0 : Method := { name := "<init>", desc := "()V", sig := { parameters := [], returnType := none }, accessFlags := 1, code := none }
/-- java/lang/Object -/
def k0 : Class := { plain "java/lang/Object" none with
  accessFlags := 33
  interfaces := #[]
  cf := some (fileOf pool0 8 #[] #[{ accessFlags := 1, nameIndex := 5, descriptorIndex := 6, attributes := #[] }] 33 0 #[] #[])
  fields := #[]
  methods := #[k0m0]
  instanceTypes := #[]
  staticTypes := #[]
  resolved := Array.replicate 124 none
  statics := none }

def pool1 : Array CpInfo := pool [(2, .class_ 4), (1, u "java/lang/Object"), (0, u "<init>"), (0, u "()V"), (0, .fieldref 8 9), (0, .class_ 10), (0, .nameAndType 11 12), (0, u "com/example/under50k/under50k/SitemapFile$Kind"), (0, u "SITEMAP"), (0, u "Lcom/example/under50k/under50k/SitemapFile$Kind;"), (0, .fieldref 8 14), (0, .nameAndType 15 12), (0, u "INDEX"), (0, .methodref 8 17), (0, .nameAndType 18 19), (0, u "emptySize"), (0, u "()I"), (0, .methodref 21 22), (0, .class_ 23), (0, .nameAndType 24 25), (0, u "com/example/under50k/under50k/KindEmptySizePinLaw"), (0, u "expected"), (0, u "(Z)I"), (3, u "law"), (0, u "(I)Z")] 6

def k1m0 : Method := { name := "<init>", desc := "()V", sig := { parameters := [], returnType := none }, accessFlags := 2, code := none }
def k1c1 : Code := { maxStack := 2, maxLocals := 5, code := method_2_code, exceptionTable := #[], attributes := #[] }
def k1m1 : Method := { name := "expected", desc := "(Z)I", sig := { parameters := [.boolean], returnType := some .int }, accessFlags := 10, code := some k1c1 }
def k1c2 : Code := { maxStack := 2, maxLocals := 3, code := code, exceptionTable := #[], attributes := #[] }
def k1m2 : Method := { name := "law", desc := "(I)Z", sig := { parameters := [.int], returnType := some .boolean }, accessFlags := 9, code := some k1c2 }
/-- com/example/under50k/under50k/KindEmptySizePinLaw -/
def k1 : Class := { plain "com/example/under50k/under50k/KindEmptySizePinLaw" (some 0) with
  accessFlags := 49
  interfaces := #[]
  cf := some (fileOf pool1 21 #[] #[{ accessFlags := 2, nameIndex := 5, descriptorIndex := 6, attributes := #[] }, { accessFlags := 10, nameIndex := 24, descriptorIndex := 25, attributes := #[] }, { accessFlags := 9, nameIndex := 29, descriptorIndex := 30, attributes := #[] }] 49 2 #[] #[])
  fields := #[]
  methods := #[k1m0, k1m1, k1m2]
  instanceTypes := #[]
  staticTypes := #[]
  resolved := Array.replicate 37 none
  statics := none }

def pool2 : Array CpInfo := pool [(1, .class_ 2), (0, u "java/lang/constant/Constable"), (0, .class_ 4), (0, u "java/lang/Object")] 6

/-- java/lang/constant/Constable -/
def k2 : Class := { plain "java/lang/constant/Constable" (some 0) with
  accessFlags := 1537
  interfaces := #[]
  cf := some (fileOf pool2 1 #[] #[] 1537 3 #[] #[])
  fields := #[]
  methods := #[]
  instanceTypes := #[]
  staticTypes := #[]
  resolved := Array.replicate 11 none
  statics := none }

def pool3 : Array CpInfo := pool [(1, .class_ 2), (0, u "java/lang/Comparable"), (0, .class_ 4), (0, u "java/lang/Object")] 7

/-- java/lang/Comparable -/
def k3 : Class := { plain "java/lang/Comparable" (some 0) with
  accessFlags := 1537
  interfaces := #[]
  cf := some (fileOf pool3 1 #[] #[] 1537 3 #[] #[])
  fields := #[]
  methods := #[]
  instanceTypes := #[]
  staticTypes := #[]
  resolved := Array.replicate 12 none
  statics := none }

def pool4 : Array CpInfo := pool [(1, .class_ 2), (0, u "java/io/Serializable"), (0, .class_ 4), (0, u "java/lang/Object")] 2

/-- java/io/Serializable -/
def k4 : Class := { plain "java/io/Serializable" (some 0) with
  accessFlags := 1537
  interfaces := #[]
  cf := some (fileOf pool4 1 #[] #[] 1537 3 #[] #[])
  fields := #[]
  methods := #[]
  instanceTypes := #[]
  staticTypes := #[]
  resolved := Array.replicate 7 none
  statics := none }

def pool5 : Array CpInfo := pool [(2, .class_ 4), (1, u "java/lang/Enum"), (0, u "name"), (0, u "Ljava/lang/String;"), (2, u "ordinal"), (0, u "I"), (1, .class_ 14), (1, u "java/lang/Object"), (4, u "hash"), (86, .class_ 108), (1, u "java/lang/Enum$EnumDesc"), (2, .class_ 112), (0, u "java/lang/constant/Constable"), (0, .class_ 114), (0, u "java/lang/Comparable"), (0, .class_ 116), (0, u "java/io/Serializable")] 87

/-- java/lang/Enum -/
def k5 : Class := { plain "java/lang/Enum" (some 0) with
  accessFlags := 1057
  interfaces := #[2, 3, 4]
  cf := some (fileOf pool5 2 #[.nestMembers #[106]] #[] 1057 12 #[111, 113, 115] #[{ accessFlags := 18, nameIndex := 5, descriptorIndex := 6, attributes := #[] }, { accessFlags := 18, nameIndex := 9, descriptorIndex := 10, attributes := #[] }, { accessFlags := 2, nameIndex := 19, descriptorIndex := 10, attributes := #[] }])
  fields := #[{ name := "name", type := (.object "java/lang/String"), accessFlags := 18, slot := 0, constantValue := 0 }, { name := "ordinal", type := .int, accessFlags := 18, slot := 1, constantValue := 0 }, { name := "hash", type := .int, accessFlags := 2, slot := 2, constantValue := 0 }]
  methods := #[]
  instanceTypes := #[(.object "java/lang/String"), .int, .int]
  staticTypes := #[]
  resolved := Array.replicate 204 none
  statics := none }

def pool6 : Array CpInfo := pool [(1, .class_ 2), (0, u "com/example/under50k/under50k/SitemapFile"), (0, .class_ 4), (0, u "com/example/under50k/under50k/SitemapFile$Kind"), (2, u "SITEMAP"), (0, u "Lcom/example/under50k/under50k/SitemapFile$Kind;"), (2, u "INDEX"), (2, u "$VALUES"), (0, u "[Lcom/example/under50k/under50k/SitemapFile$Kind;"), (6, .class_ 24), (1, u "java/lang/Enum"), (8, u "root"), (0, u "Ljava/lang/String;"), (2, u "entry"), (2, u "maxEntries"), (0, u "I"), (8, .fieldref 3 51), (0, .nameAndType 52 53), (0, u "head"), (0, u "[B"), (1, .fieldref 3 56), (0, .nameAndType 57 53), (0, u "tail"), (3, u "lineStart"), (2, u "lineEnd"), (73, u "()I"), (0, u "emptySize")] 30

def k6c0 : Code := { maxStack := 2, maxLocals := 1, code := prog_27_method_7_code, exceptionTable := #[], attributes := #[] }
def k6m0 : Method := { name := "emptySize", desc := "()I", sig := { parameters := [], returnType := some .int }, accessFlags := 0, code := some k6c0 }
/-- com/example/under50k/under50k/SitemapFile$Kind -/
def k6 : Class := { plain "com/example/under50k/under50k/SitemapFile$Kind" (some 5) with
  accessFlags := 16432
  interfaces := #[]
  cf := some (fileOf pool6 3 #[.nestHost 1] #[{ accessFlags := 0, nameIndex := 139, descriptorIndex := 138, attributes := #[] }] 16432 22 #[] #[{ accessFlags := 16409, nameIndex := 7, descriptorIndex := 8, attributes := #[] }, { accessFlags := 16409, nameIndex := 11, descriptorIndex := 8, attributes := #[] }, { accessFlags := 18, nameIndex := 33, descriptorIndex := 34, attributes := #[] }, { accessFlags := 18, nameIndex := 37, descriptorIndex := 34, attributes := #[] }, { accessFlags := 18, nameIndex := 40, descriptorIndex := 41, attributes := #[] }, { accessFlags := 18, nameIndex := 52, descriptorIndex := 53, attributes := #[] }, { accessFlags := 18, nameIndex := 57, descriptorIndex := 53, attributes := #[] }, { accessFlags := 18, nameIndex := 61, descriptorIndex := 53, attributes := #[] }, { accessFlags := 18, nameIndex := 64, descriptorIndex := 53, attributes := #[] }, { accessFlags := 4122, nameIndex := 14, descriptorIndex := 15, attributes := #[] }])
  fields := #[{ name := "SITEMAP", type := (.object "com/example/under50k/under50k/SitemapFile$Kind"), accessFlags := 16409, slot := 0, constantValue := 0 }, { name := "INDEX", type := (.object "com/example/under50k/under50k/SitemapFile$Kind"), accessFlags := 16409, slot := 1, constantValue := 0 }, { name := "root", type := (.object "java/lang/String"), accessFlags := 18, slot := 3, constantValue := 0 }, { name := "entry", type := (.object "java/lang/String"), accessFlags := 18, slot := 4, constantValue := 0 }, { name := "maxEntries", type := .int, accessFlags := 18, slot := 5, constantValue := 0 }, { name := "head", type := (.array .byte), accessFlags := 18, slot := 6, constantValue := 0 }, { name := "tail", type := (.array .byte), accessFlags := 18, slot := 7, constantValue := 0 }, { name := "lineStart", type := (.array .byte), accessFlags := 18, slot := 8, constantValue := 0 }, { name := "lineEnd", type := (.array .byte), accessFlags := 18, slot := 9, constantValue := 0 }, { name := "$VALUES", type := (.array (.object "com/example/under50k/under50k/SitemapFile$Kind")), accessFlags := 4122, slot := 2, constantValue := 0 }]
  methods := #[k6m0]
  instanceTypes := #[(.object "java/lang/String"), .int, .int, (.object "java/lang/String"), (.object "java/lang/String"), .int, (.array .byte), (.array .byte), (.array .byte), (.array .byte)]
  staticTypes := #[(.object "com/example/under50k/under50k/SitemapFile$Kind"), (.object "com/example/under50k/under50k/SitemapFile$Kind"), (.array (.object "com/example/under50k/under50k/SitemapFile$Kind"))]
  resolved := Array.replicate 170 none
  statics := some 0 }

def pool7 : Array CpInfo := pool [(1, u "java/lang/Cloneable"), (0, .class_ 1), (0, u "java/lang/Object"), (0, .class_ 3)] 3

/-- java/lang/Cloneable -/
def k7 : Class := { plain "java/lang/Cloneable" (some 0) with
  accessFlags := 1537
  interfaces := #[]
  cf := some (fileOf pool7 2 #[] #[] 1537 4 #[] #[])
  fields := #[]
  methods := #[]
  instanceTypes := #[]
  staticTypes := #[]
  resolved := Array.replicate 8 none
  statics := none }

/-- the primitive byte -/
def k8 : Class := { plain "byte" none with kind := .primitive 'B', accessFlags := 0x411 }
/-- [B -/
def k9 : Class := { plain "[B" (some 0) with kind := .array 8 .byte, interfaces := #[7, 4], accessFlags := 1041 }

/-- the primitive int -/
def k10 : Class := { plain "int" none with kind := .primitive 'I', accessFlags := 0x411 }
/-- [I -/
def k11 : Class := { plain "[I" (some 0) with kind := .array 10 .int, interfaces := #[7, 4], accessFlags := 1041 }

def heap : Heap := #[{ cls := 6, slots := #[.ref 5, .ref 6, .null], vm := .statics 6 },
  { cls := 9, slots := #[.int 0, .int 0, .int 0, .int 0, .int 0, .int 0, .int 0, .int 0, .int 0, .int 0, .int 0, .int 0, .int 0, .int 0, .int 0, .int 0, .int 0, .int 0, .int 0, .int 0, .int 0, .int 0, .int 0, .int 0, .int 0, .int 0, .int 0, .int 0, .int 0, .int 0, .int 0, .int 0, .int 0, .int 0, .int 0, .int 0, .int 0, .int 0, .int 0, .int 0, .int 0, .int 0, .int 0, .int 0, .int 0, .int 0, .int 0, .int 0, .int 0, .int 0, .int 0, .int 0, .int 0, .int 0, .int 0, .int 0, .int 0, .int 0, .int 0, .int 0, .int 0, .int 0, .int 0, .int 0, .int 0, .int 0, .int 0, .int 0, .int 0, .int 0, .int 0, .int 0, .int 0, .int 0, .int 0, .int 0, .int 0, .int 0, .int 0, .int 0, .int 0, .int 0, .int 0, .int 0, .int 0, .int 0, .int 0, .int 0, .int 0, .int 0, .int 0, .int 0, .int 0, .int 0, .int 0, .int 0, .int 0, .int 0, .int 0, .int 0], vm := .none },
  { cls := 9, slots := #[.int 0, .int 0, .int 0, .int 0, .int 0, .int 0, .int 0, .int 0, .int 0, .int 0], vm := .none },
  { cls := 9, slots := #[.int 0, .int 0, .int 0, .int 0, .int 0, .int 0, .int 0, .int 0, .int 0, .int 0, .int 0, .int 0, .int 0, .int 0, .int 0, .int 0, .int 0, .int 0, .int 0, .int 0, .int 0, .int 0, .int 0, .int 0, .int 0, .int 0, .int 0, .int 0, .int 0, .int 0, .int 0, .int 0, .int 0, .int 0, .int 0, .int 0, .int 0, .int 0, .int 0, .int 0, .int 0, .int 0, .int 0, .int 0, .int 0, .int 0, .int 0, .int 0, .int 0, .int 0, .int 0, .int 0, .int 0, .int 0, .int 0, .int 0, .int 0, .int 0, .int 0, .int 0, .int 0, .int 0, .int 0, .int 0, .int 0, .int 0, .int 0, .int 0, .int 0, .int 0, .int 0, .int 0, .int 0, .int 0, .int 0, .int 0, .int 0, .int 0, .int 0, .int 0, .int 0, .int 0, .int 0, .int 0, .int 0, .int 0, .int 0, .int 0, .int 0, .int 0, .int 0, .int 0, .int 0, .int 0, .int 0, .int 0, .int 0, .int 0, .int 0, .int 0, .int 0, .int 0, .int 0, .int 0, .int 0, .int 0], vm := .none },
  { cls := 9, slots := #[.int 0, .int 0, .int 0, .int 0, .int 0, .int 0, .int 0, .int 0, .int 0, .int 0, .int 0, .int 0, .int 0, .int 0, .int 0, .int 0], vm := .none },
  { cls := 6, slots := #[.null, .int 0, .int 0, .null, .null, .int 0, .ref 1, .ref 2, .null, .null], vm := .none },
  { cls := 6, slots := #[.null, .int 1, .int 0, .null, .null, .int 0, .ref 3, .ref 4, .null, .null], vm := .none }]
def classes : Array Class := #[k0, k1, k2, k3, k4, k5, k6, k7, k8, k9, k10, k11]
def interned : List (Array UInt16 × Addr) := []
def slotsUsed : Nat := 255
def theMethod : MethodId := ⟨1, 2⟩
def args0 : Array Value := #[.int 5]
def aboutOver (below : List Frame) : State where
  vm := { classes := classes, interned := interned.toArray }
  heap := heap
  slotsUsed := slotsUsed
  threads := #[{ frames := .invoking theMethod args0 :: below }]
def below0 : List Frame := [.native { method := ⟨0, 0⟩, args := #[] }]
def about1 : State := aboutOver below0
def p0 : Program := .bare "" "" ""
def e0 : Env := launch0.env 0 0 0
theorem w_frames : about1.frames = Frame.invoking theMethod args0 :: below0 := rfl
set_option maxRecDepth 65536 in
theorem w_args : argsFit about1.vm theMethod args0 = true := by decide +kernel
set_option maxRecDepth 65536 in
theorem w_heap : heapFits about1 = true := by decide +kernel
set_option maxRecDepth 65536 in
theorem w_runnable : about1.curStatus? = some .runnable := by decide +kernel
set_option maxRecDepth 65536 in
theorem w_alone : about1.alone = true := by decide +kernel
set_option maxRecDepth 65536 in
theorem w_named : about1.methodNamed? x = some theMethod := by decide +kernel
set_option maxRecDepth 65536 in
theorem w_hears : about1.hears theMethod below0 = true := by decide +kernel
set_option maxRecDepth 65536 in
theorem w_ripe : about1.ripe theMethod args0 below0 = true := by decide +kernel
theorem w_running : about1.status = .running := rfl
set_option maxRecDepth 65536 in
theorem w_room : about1.hasRoom e0.platform room_1 = true :=
  launch0.hasRoom_least _ room_1 (by decide +kernel) (by decide +kernel) (by decide +kernel) (by decide +kernel) (by decide +kernel) (by decide +kernel)
theorem allAtoms_all (ts : List Jvm.Cond) (a : Array Jvm.Value) (st : Jvm.State) : (allAtoms ts).before a st = ts.all (fun c => c.before a st) := by
  induction ts with
  | nil => rfl
  | cons c t ih =>
    show (Jvm.Cond.and c (allAtoms t)).before a st = _
    rw [Jvm.Cond.before_and, ih, List.all_cons]
def words1 : List Jvm.Cond := Jvm.Cond.code x code maxLocals ret :: tables_1
/-- a 'code' word, met by the world's own term for the bytes: nothing is compared byte by byte -/
theorem code_word {y : MethodName} {bytes : ByteArray} {mx : Nat} {rt : Option FieldType} {a : Array Value} {s : State} {m : MethodId} {meth : Method} {c : Code} (h1 : s.methodNamed? y = some m) (h2 : s.vm.method? m = some meth) (h3 : meth.code = some c) (h4 : c.code = bytes)
    (h5 : (c.maxLocals == mx && c.exceptionTable.isEmpty && decide (c.maxStack ≤ mostOperands) && decide (meth.sig.returnType = rt) && !meth.locks && decide (parseMethodDescriptor y.desc = some meth.sig)) = true) : (Jvm.Cond.code y bytes mx rt).before a s = true := by
  simp only [Bool.and_eq_true, beq_iff_eq, Bool.not_eq_true', decide_eq_true_eq] at h5
  obtain ⟨⟨⟨⟨⟨g1, g2⟩, g3⟩, g4⟩, g5⟩, g6⟩ := h5
  simp [Cond.before, Cond.holds, Cond.value, h1, h2, h3, h4, g1, g2, g3, g4, g5, g6]
def isCode : Jvm.Cond → Bool
  | .code _ _ _ _ => true
  | _ => false
theorem all_split {L : List Jvm.Cond} {P : Jvm.Cond → Bool} (h1 : L.all (fun c => isCode c || P c) = true) (h2 : ∀ c ∈ L.filter isCode, P c = true) : L.all P = true := by
  refine List.all_eq_true.mpr fun c hc => ?_
  have h := List.all_eq_true.mp h1 c hc
  rcases Bool.eq_false_or_eq_true (isCode c) with hi | hi
  · exact h2 c (List.mem_filter.mpr ⟨hc, hi⟩)
  · simpa [hi] using h
set_option maxRecDepth 65536 in
theorem w_c0 : (Jvm.Cond.code x code maxLocals ret).before args0 about1 = true := code_word (m := ⟨1, 2⟩) (meth := k1m2) (c := k1c2) (by decide +kernel) rfl rfl rfl (by decide +kernel)
set_option maxRecDepth 65536 in
theorem w_c1 : (Jvm.Cond.code ({ cls := "com/example/under50k/under50k/SitemapFile$Kind", name := "emptySize", desc := "()I" } : Jvm.MethodName) prog_27_method_7_code (1 : Nat) (Option.some Jvm.ClassFile.FieldType.int)).before args0 about1 = true := code_word (m := ⟨6, 0⟩) (meth := k6m0) (c := k6c0) (by decide +kernel) rfl rfl rfl (by decide +kernel)
set_option maxRecDepth 65536 in
theorem w_c2 : (Jvm.Cond.code ({ cls := "com/example/under50k/under50k/KindEmptySizePinLaw", name := "expected", desc := "(Z)I" } : Jvm.MethodName) method_2_code (5 : Nat) (Option.some Jvm.ClassFile.FieldType.int)).before args0 about1 = true := code_word (m := ⟨1, 1⟩) (meth := k1m1) (c := k1c1) (by decide +kernel) rfl rfl rfl (by decide +kernel)
def codes1 : List Jvm.Cond := [Jvm.Cond.code x code maxLocals ret, Jvm.Cond.code ({ cls := "com/example/under50k/under50k/SitemapFile$Kind", name := "emptySize", desc := "()I" } : Jvm.MethodName) prog_27_method_7_code (1 : Nat) (Option.some Jvm.ClassFile.FieldType.int), Jvm.Cond.code ({ cls := "com/example/under50k/under50k/KindEmptySizePinLaw", name := "expected", desc := "(Z)I" } : Jvm.MethodName) method_2_code (5 : Nat) (Option.some Jvm.ClassFile.FieldType.int)]
set_option maxRecDepth 65536 in
theorem codes_eq : words1.filter isCode = codes1 := rfl
theorem w_codes : ∀ c ∈ words1.filter isCode, c.before args0 about1 = true := by
  rw [codes_eq]
  intro c hc
  simp only [codes1, List.mem_cons, List.not_mem_nil, or_false] at hc
  rcases hc with rfl | rfl | rfl
  · exact w_c0
  · exact w_c1
  · exact w_c2
set_option maxRecDepth 65536 in
theorem w_t1 : words1.all (fun c => isCode c || c.before args0 about1) = true := by decide +kernel
theorem w_tables : (allAtoms (Jvm.Cond.code x code maxLocals ret :: tables_1)).before args0 about1 = true := by
  rw [allAtoms_all]
  show words1.all (fun c => c.before args0 about1) = true
  refine all_split ?_ w_codes
  rw [w_t1]
set_option maxRecDepth 65536 in
theorem w_case : (Jvm.Cond.and given_1 narrow_1).before args0 about1 = true := by decide +kernel
theorem w_applies : (headSpec (Jvm.Cond.code x code maxLocals ret :: tables_1) room_1).applies x e0.platform about1 = true :=
  (Spec.applies_iff w_frames).mpr ⟨w_running, w_runnable, w_alone, w_named, w_hears, w_ripe, w_room, w_tables⟩
theorem atStart : AtStart classFile x code maxLocals ret World_1 tables_1 room_1 Calls_1 rest_1 Pre_1 launch0 p0 e0 about1 theMethod args0 below0 :=
  ⟨lists_1, trivial, launch0.admits_env _ _ _, launch0.least_env, fairChoices_fair.cas, fairChoices_fair.clock, w_frames, w_args, w_heap, w_applies, trivial, trivial, w_case⟩
end start1
theorem witness_1 : WitnessClaimed_1 := ⟨start1.p0, start1.e0, start1.about1, start1.theMethod, start1.args0, start1.below0, start1.atStart⟩
end Jvm.Pilot.@@N@@
