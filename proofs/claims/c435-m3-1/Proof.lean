import JvmDerived
import JvmDerived.Pilot.@@N@@Statement
import JvmDerived.Pilot.@@N@@Code
set_option linter.unusedVariables false
set_option linter.unusedSimpArgs false
namespace Jvm.RoadKit
open Sem ClassFile Op Lib Jvm.Stand Jvm.Free Jvm.LawKit
section New
variable {p : Program} {l : Launch} {e : Env} {R : Room} {s : State} {m : MethodId} {args : Array Value} {below : List Frame} {meth : Method} {c : Code} {T : State} {locs : List Loc} {cells slots : Nat}
theorem retI (X : Stand p l e R s m args below meth c T locs cells slots) (hx : p.tables.exec = Jvm.exec) {pc : Nat} {Ls : Array Slot} {z : Int32} {rest : List Value} (hret : meth.sig.returnType = some .int) (hd : decode c.code pc = .ok (.ireturn, 1)) {fs : List Frame}
    (hl : ∀ (f : JFrame) (acts : List Action), f.method = m → f.locked = none → f.entered = [] → (doReturn e (T.setTop f) acts (some (.int z))).1 = T.setFrames fs) : Steps p.tables e below (T.setTop (mkF m pc Ls (.int z :: rest))) (T.setFrames fs) := by
  have hm' : T.vm.method? m = some meth := X.method'
  have hn : narrow .int (.int z) = .int z := rfl
  show Steps p.tables e below (T.setTop { method := m, pc := pc, locals := Ls, stack := _ :: rest, locked := none }) _
  jvm_step X.here [X.here.top, hx, hd, hm', hret, hn]
  first | (intro acts; rw [hl _ acts rfl rfl rfl]) | rw [hl _ _ rfl rfl rfl]
  exact Steps.refl _
/-- the run goes on from here to an end of which P holds -/
def Go (tb : Tables) (e : Env) (below : List Frame) (T : State) (g : JFrame) (P : State → Prop) : Prop := ∃ U, Steps tb e below (T.setTop g) U ∧ P U
theorem go1 {tb : Tables} {T' : State} {g g' : JFrame} {P : State → Prop} (k : ∀ t, Steps tb e below (T'.setTop g') t → Steps tb e below (T.setTop g) t) (h : Go tb e below T' g' P) : Go tb e below T g P := by
  obtain ⟨U, h1, h2⟩ := h; exact ⟨U, k U h1, h2⟩
theorem goT {tb : Tables} {T' : State} {g g' : JFrame} {P : State → Prop} (k : Steps tb e below (T.setTop g) (T'.setTop g')) (h : Go tb e below T' g' P) : Go tb e below T g P := by
  obtain ⟨U, h1, h2⟩ := h; exact ⟨U, k.trans h1, h2⟩
theorem stp {tb : Tables} {T' t : State} {g g' : JFrame} (k : ∀ t, Steps tb e below (T'.setTop g') t → Steps tb e below (T.setTop g) t) (h : Steps tb e below (T'.setTop g') t) : Steps tb e below (T.setTop g) t := k t h
theorem goB {tb : Tables} {ml : Nat} {g : JFrame} {Qp : Outcome → State → Prop} (q : entryFrame m args ml = g) (h : Go tb e below T g (fun U => ∃ o, U.status = .running ∧ Ended U below o ∧ Qp o U)) :
    ∃ s₂ o, Steps tb e below (T.setTop (entryFrame m args ml)) s₂ ∧ s₂.status = .running ∧ Ended s₂ below o ∧ Qp o s₂ := by
  obtain ⟨U, h1, o, h2, h3, h4⟩ := h; exact ⟨U, o, q ▸ h1, h2, h3, h4⟩
theorem goR (X : Stand p l e R s m args below meth c T locs cells slots) (hlocks : meth.locks = false) {v : Option Value} (hv : meth.sig.returnType = none → v = none) {g : JFrame} {kc ks : Nat} (Q : Option Value → Heap → List Loc → Prop)
    (k : ∀ fs, (∀ (f : JFrame) (acts : List Action), f.method = m → f.locked = none → f.entered = [] → (doReturn e (T.setTop f) acts v).1 = T.setFrames fs) → Steps p.tables e below (T.setTop g) (T.setFrames fs)) (hc : cells ≤ kc) (hs : slots ≤ ks) (hq : Q v T.heap locs) :
    Go p.tables e below T g (fun U => ∃ o, U.status = .running ∧ Ended U below o ∧ ∃ v L, o = .returned v ∧ Q v U.heap L ∧ FrameEnd s o U L kc ks) := by
  obtain ⟨fs, hr, hrun, hended, hW, hsame⟩ := X.leave hv hlocks
  exact ⟨_, k fs hr, _, hrun, hended, _, _, rfl, hq, ⟨_, rfl⟩, hW, hsame.mono hc hs⟩
theorem fitsG {C : String} {u : Value} (h : u.isRef = true) : fits (.object C) u = true := by rcases ref_cases h with rfl | ⟨a, rfl⟩ <;> rfl
theorem selPriv {Z : State} {a0 : Array Value} {y : MethodName} {n : Nat} (hZ : Z.Warmed39 s.vm) (wi : (Cond.instantiable y.cls n).before a0 Z = true) (wp : (Cond.privateMethod y).before a0 Z = true) (wm : (Cond.instanceMethod y).before a0 Z = true) (hy : y.cls ≠ "java/lang/invoke/MethodHandle" ∧ y.cls ≠ "java/lang/invoke/VarHandle") : (Cond.selects y.cls y y).before args s = true := by
  obtain ⟨c, k, h1, h2, -, h4, -⟩ := Cond.instantiable_spec (show (Cond.instantiable y.cls n).before args s = true from mv hZ wi)
  have h5 : k.isInterface = false := by
    cases hq : k.isInterface
    · rfl
    · rw [hq] at h4; simp at h4
  exact selects_self_of_private h1 h2 h5 (Cond.privateMethod_at (mvP hZ wp (args := #[]))) (mv hZ wm) hy
theorem nsRoot {Z : State} {a0 : Array Value} {O K : String} {n : Nat} (w : (Cond.noSuperclass O).before a0 Z = true) (wk : (Cond.instantiable K n).before a0 Z = true) (hn : O ≠ K) : NS Z O K := by
  obtain ⟨c, k, h1, h2, h3, -⟩ := Cond.noSuperclass_spec w
  obtain ⟨t, kt, g1, -⟩ := Cond.instantiable_spec wk
  have ne := ids_ne h1 g1 hn
  exact ⟨c, t, h1, g1, fun fuel => by cases fuel <;> simp [Vm.isSubclassAux, ne, h2, h3]⟩
theorem nsNo {Z : State} {a0 : Array Value} {C S K : String} {n : Nat} (w : (Cond.superclass C S).before a0 Z = true) (wk : (Cond.instantiable K n).before a0 Z = true) (N : NS Z C K) (hn : C ≠ K) : ∃ c t, Z.vm.findClass C = some c ∧ Z.vm.findClass K = some t ∧ Z.vm.assignable c t = false := by
  obtain ⟨c, t, h0, g0, n3⟩ := N
  obtain ⟨pp, k, kp, -, h2, -, -, h5, -, -⟩ := Cond.superclass_spec h0 w
  obtain ⟨t', kt, g1, g2, g3, g4, -⟩ := Cond.instantiable_spec wk
  cases g0.symm.trans g1
  have ne := ids_ne h0 g0 hn
  have g5 : kt.isInterface = false := by
    cases hq : kt.isInterface
    · rfl
    · rw [hq] at g4; simp at g4
  refine ⟨c, t, h0, g0, ?_⟩
  show Z.vm.assignableAux (255 + 1) c t = false
  simp [Vm.assignableAux, ne, h2, g2, h5, g3, g5, Vm.isSubclass, n3]
theorem lenS {Z : State} {t : Term} {a : Addr} {cl : Cell} {n : Int32} {ty : FieldType} (ev : t.eval args Z none [] Z = some (.ref a)) (A : Arr Z Z.heap a cl ty) (h : (Term.length t).eval args Z none [] Z = some (.int n)) :
    cl.slots.size < 2 ^ 31 ∧ cl.slots.size.toInt32 = n ∧ cl.slots.size = n.toNatClampNeg ∧ ¬ n < 0 := by
  have ha := A.fin (Vm.Alike.refl _)
  by_cases q : cl.slots.size < 2 ^ 31
  · have e := len_f ev ha q
    rw [h] at e
    have e2 : n = cl.slots.size.toInt32 := by injection e with e; injection e
    have e3 := len_toInt q
    refine ⟨q, e2.symm, ?_, ?_⟩
    · rw [e2]; simp only [Int32.toNatClampNeg, e3]; rfl
    · rw [e2, Int32.lt_iff_toInt_lt, e3]; show ¬ (cl.slots.size : Int) < 0; omega
  · exfalso
    have q' : ¬ cl.slots.size < 2147483648 := q
    simp [Term.eval, ev, ha, q'] at h
end New
end Jvm.RoadKit
namespace Jvm.Pilot.@@N@@
open Jvm Jvm.ClassFile Sem Op Lib Jvm.Free Jvm.Stand Jvm.LawKit Jvm.RoadKit Bundle Jvm.Pilot.@@N@@.Jvm.D
theorem d1_0 : decode prog_12_method_64_code 0 = .ok (.iload_n 0, 1) := by decide +kernel
theorem d1_1 : decode prog_12_method_64_code 1 = .ok (.i2l, 1) := by decide +kernel
theorem d1_2 : decode prog_12_method_64_code 2 = .ok (.lload_n 1, 1) := by decide +kernel
theorem d1_3 : decode prog_12_method_64_code 3 = .ok (.ladd, 1) := by decide +kernel
theorem d1_4 : decode prog_12_method_64_code 4 = .ok (.lstore_n 3, 1) := by decide +kernel
theorem d1_5 : decode prog_12_method_64_code 5 = .ok (.lload_n 3, 1) := by decide +kernel
theorem d1_6 : decode prog_12_method_64_code 6 = .ok (.ldc2_w 562, 3) := by decide +kernel
theorem d1_9 : decode prog_12_method_64_code 9 = .ok (.lcmp, 1) := by decide +kernel
theorem d1_10 : decode prog_12_method_64_code 10 = .ok (.ifCond .le 17, 3) := by decide +kernel
theorem d1_27 : decode prog_12_method_64_code 27 = .ok (.lload_n 3, 1) := by decide +kernel
theorem d1_28 : decode prog_12_method_64_code 28 = .ok (.l2i, 1) := by decide +kernel
theorem d1_29 : decode prog_12_method_64_code 29 = .ok (.newarray .byte, 2) := by decide +kernel
theorem d1_31 : decode prog_12_method_64_code 31 = .ok (.areturn, 1) := by decide +kernel
theorem pn_1 : plainName "com/example/gridwire/gridwire/arrays/TypedArray" = true := by first | (simp [plainName, overriddenIn]; done) | decide +kernel
theorem ef_1 (m : MethodId) (p1 : Int32) (p2 : Int64) : entryFrame m #[(.int p1), (.long p2)] 5 = mkF m 0 #[.val (.int p1), .val (.long p2), .second, .unset, .unset] [] := by first | (simp [entryFrame, mkF, argsToLocals, Value.category]; done) | rfl
def Q1 (Z : State) (p1 : Int32) (p2 : Int64) (h0 : Heap) (n0 : Nat) (v : Option Value) (h : Heap) (L : List Loc) : Prop := ∃ (b : Addr) (k : ClassId), v = some (.ref b) ∧ Fr n0 L ∧ Keep h0 h [] ∧ n0 ≤ b ∧ h0.size ≤ b ∧ Arv Z h b k .byte (((p1.toInt64) + p2).toInt32) [] (.int 0)
set_option maxRecDepth 65536 in
set_option maxHeartbeats 40000000 in
theorem rm1 (l : Launch) (Z : State) (a0 : Array Value) (hw : ∀ d ∈ tables_1, d.before a0 Z = true) (ws : List Jvm.Cond) (p1 : Int32) (p2 : Int64) (h0 : Heap) (n0 : Nat) (Z0 : n0 ≤ h0.size) (hmax : ¬ ((2147483647 : Int64) < ((p1.toInt64) + p2))) (hneg : ¬ ((((p1.toInt64) + p2).toInt32) < (0 : Int32))) (hcap : ((((p1.toInt64) + p2).toInt32)).toNatClampNeg ≤ 1054) :
    MetFree l (⟨"com/example/gridwire/gridwire/arrays/TypedArray", "newItem", "(IJ)[B"⟩ : MethodName) (head1 (Jvm.Cond.code (⟨"com/example/gridwire/gridwire/arrays/TypedArray", "newItem", "(IJ)[B"⟩ : MethodName) prog_12_method_64_code 5 (some (.array .byte)) :: ws) ({ frames := 0, cells := 1, slots := 1054, locals := 0 } : Room)) (fun a U => a = #[(.int p1), (.long p2)] ∧ Z.Warmed39 U.vm ∧ U.heap = h0) (fun _ _ _ _ _ => True) (fun _ U o U' => ∃ v L, o = .returned v ∧ Q1 Z p1 p2 h0 n0 v U'.heap L ∧ FrameEnd U o U' L ({ frames := 0, cells := 1, slots := 1054, locals := 0 } : Room).cells ({ frames := 0, cells := 1, slots := 1054, locals := 0 } : Room).slots) := by
  refine MetFree.of_bodySF (plainFor_of_name pn_1) hisR ?_
  intro p e s m args below meth c s₁ Bd hml0 hP hK
  obtain ⟨rfl, hZ, hh⟩ := hP
  have hx := Bd.exec
  have hby := Bd.bytes
  have hml : c.maxLocals = 5 := hml0
  have hown : s.vm.findClass "com/example/gridwire/gridwire/arrays/TypedArray" = some m.cls := findClass_of_methodNamed Bd.named
  have hnm := (name_of_methodNamed Bd.named Bd.method).1
  have X0 : Stand p l e ({ frames := 0, cells := 1, slots := 1054, locals := 0 } : Room) s m #[(.int p1), (.long p2)] below meth c s₁ [] 0 0 := Stand.of_body Bd
  have e0 : s₁.heap = h0 := by rw [← hh, Bd.state]; rfl
  have N0 := Fr.nil n0
  refine goB (ef_1 m p1 p2) ?_
  show Go p.tables e below s₁ (mkF m 0 #[.val (.int p1), .val (.long p2), .second, .unset, .unset] []) _
  refine go1 (fun _ => XS.iloadN X0.here hx rfl (hb hby d1_0) rfl) ?_
  show Go p.tables e below s₁ (mkF m 1 #[.val (.int p1), .val (.long p2), .second, .unset, .unset] [(.int p1)]) _
  refine go1 (fun _ => XS.i2l X0.here hx rfl (hb hby d1_1) rfl) ?_
  show Go p.tables e below s₁ (mkF m 2 #[.val (.int p1), .val (.long p2), .second, .unset, .unset] [(.long (p1.toInt64))]) _
  refine go1 (fun _ => XS.lloadN X0.here hx rfl (hb hby d1_2) rfl) ?_
  show Go p.tables e below s₁ (mkF m 3 #[.val (.int p1), .val (.long p2), .second, .unset, .unset] [(.long p2), (.long (p1.toInt64))]) _
  refine go1 (fun _ => XS.ladd X0.here hx rfl (hb hby d1_3) rfl) ?_
  show Go p.tables e below s₁ (mkF m 4 #[.val (.int p1), .val (.long p2), .second, .unset, .unset] [(.long ((p1.toInt64) + p2))]) _
  refine go1 (fun _ => XS.lstoreN X0.here hx rfl (hb hby d1_4) rfl (l' := #[.val (.int p1), .val (.long p2), .second, .val (.long ((p1.toInt64) + p2)), .second]) rfl) ?_
  show Go p.tables e below s₁ (mkF m 5 #[.val (.int p1), .val (.long p2), .second, .val (.long ((p1.toInt64) + p2)), .second] []) _
  refine go1 (fun _ => XS.lloadN X0.here hx rfl (hb hby d1_5) rfl) ?_
  show Go p.tables e below s₁ (mkF m 6 #[.val (.int p1), .val (.long p2), .second, .val (.long ((p1.toInt64) + p2)), .second] [(.long ((p1.toInt64) + p2))]) _
  refine go1 (X0.ldc2Long hx hown (mvT hZ (hw _ (List.mem_of_getElem? (i := 5) rfl))) (g := (mkF m 6 #[.val (.int p1), .val (.long p2), .second, .val (.long ((p1.toInt64) + p2)), .second] [(.long ((p1.toInt64) + p2))])) rfl (hb hby d1_6)) ?_
  show Go p.tables e below s₁ (mkF m 9 #[.val (.int p1), .val (.long p2), .second, .val (.long ((p1.toInt64) + p2)), .second] [(.long (2147483647 : Int64)), (.long ((p1.toInt64) + p2))]) _
  refine go1 (fun _ => XS.lcmp X0.here hx rfl (hb hby d1_9) rfl) ?_
  show Go p.tables e below s₁ (mkF m 10 #[.val (.int p1), .val (.long p2), .second, .val (.long ((p1.toInt64) + p2)), .second] [(.int (lcmpW ((p1.toInt64) + p2) (2147483647 : Int64)))]) _
  refine go1 (fun _ => XS.ifYes X0.here hx rfl (pc0 := 10) (pc' := 27) rfl (hb hby d1_10) rfl ((if0 _ _).trans (flt (mt (lw_gt _ _).mp hmax)).2.2.2) (by decide) (by decide)) ?_
  show Go p.tables e below s₁ (mkF m 27 #[.val (.int p1), .val (.long p2), .second, .val (.long ((p1.toInt64) + p2)), .second] []) _
  refine go1 (fun _ => XS.lloadN X0.here hx rfl (hb hby d1_27) rfl) ?_
  show Go p.tables e below s₁ (mkF m 28 #[.val (.int p1), .val (.long p2), .second, .val (.long ((p1.toInt64) + p2)), .second] [(.long ((p1.toInt64) + p2))]) _
  refine go1 (fun _ => XS.l2i X0.here hx rfl (hb hby d1_28) rfl) ?_
  show Go p.tables e below s₁ (mkF m 29 #[.val (.int p1), .val (.long p2), .second, .val (.long ((p1.toInt64) + p2)), .second] [(.int (((p1.toInt64) + p2).toInt32))]) _
  obtain ⟨T1, h1, k1, X1, e1, E1, A1, st1⟩ := newP X0 hx hZ (hw _ (List.mem_of_getElem? (i := 6) rfl)) e0 (g := (mkF m 29 #[.val (.int p1), .val (.long p2), .second, .val (.long ((p1.toInt64) + p2)), .second] [(.int (((p1.toInt64) + p2).toInt32))])) rfl (hb hby d1_29) rfl hneg (cap := 1054) hcap (by decide) (by decide) (by decide)
  obtain ⟨b1, g1⟩ : ∃ z, z = h0.size := ⟨_, rfl⟩
  rw [← g1] at A1 st1
  have g_b1 : n0 ≤ b1 := Nat.le_trans Z0 (Nat.le_of_eq g1.symm)
  have V_b1 : Arv Z h1 b1 k1 .byte (((p1.toInt64) + p2).toInt32) [] (.int 0) := Arv.new A1 hneg
  refine go1 st1 ?_
  show Go p.tables e below T1 (mkF m 31 #[.val (.int p1), .val (.long p2), .second, .val (.long ((p1.toInt64) + p2)), .second] [(.ref b1)]) _
  refine goR X1 (BodyLoose.notSynchronized Bd) (v := (some (.ref b1))) (fun h => by rw [Bd.returns] at h; cases h) (Q1 Z p1 p2 h0 n0) (fun fs hr => retOut X1 hx (t := (.array .byte)) (w := (.ref b1)) Bd.returns rfl (Or.inr (Or.inr (Or.inr (Or.inr ⟨rfl, rfl, rfl⟩)))) (hb hby d1_31) hr) (by decide) (by decide) ?_
  show Q1 Z p1 p2 h0 n0 _ T1.heap _
  rw [e1]
  exact ⟨b1, k1, rfl, N0, ((Keep.refl h0 []).ext E1), g_b1, (Nat.le_trans (Nat.le_refl h0.size) (Nat.le_of_eq g1.symm)), V_b1⟩
theorem own_len (p1 : Int32) (p2 : Int64) : ¬ ((2147483647 : Int64) < (((p1 &&& (31 : Int32)).toInt64) + (p2 &&& (1023 : Int64)))) ∧ ¬ (((((p1 &&& (31 : Int32)).toInt64) + (p2 &&& (1023 : Int64))).toInt32) < (0 : Int32)) ∧ (((((p1 &&& (31 : Int32)).toInt64) + (p2 &&& (1023 : Int64))).toInt32)).toNatClampNeg ≤ 1054 ∧ (((((p1 &&& (31 : Int32)).toInt64) + (p2 &&& (1023 : Int64))).toInt32).toInt64) = (((p1 &&& (31 : Int32)).toInt64) + (p2 &&& (1023 : Int64))) := by
  have h1 := c_mask p1 (31 : Int32) 5 (by decide) (by decide)
  have h2 := c_maskL p2 (1023 : Int64) 10 (by decide) (by decide)
  have h3 := c_i2l (p1 &&& (31 : Int32))
  have h4 := c_ladd ((p1 &&& (31 : Int32)).toInt64) (p2 &&& (1023 : Int64))
  have r4 := rng64 (((p1 &&& (31 : Int32)).toInt64) + (p2 &&& (1023 : Int64)))
  have h5 := c_l2i (((p1 &&& (31 : Int32)).toInt64) + (p2 &&& (1023 : Int64)))
  have r5 := rng32 ((((p1 &&& (31 : Int32)).toInt64) + (p2 &&& (1023 : Int64))).toInt32)
  have h6 := c_i2l ((((p1 &&& (31 : Int32)).toInt64) + (p2 &&& (1023 : Int64))).toInt32)
  have l1 : (2147483647 : Int64).toInt = 2147483647 := by decide
  have l0 : (0 : Int32).toInt = 0 := by decide
  refine ⟨?_, ?_, ?_, ?_⟩
  · rw [Int64.lt_iff_toInt_lt]; omega
  · rw [Int32.lt_iff_toInt_lt]; omega
  · simp only [Int32.toNatClampNeg]; omega
  · rw [← Int64.toInt_inj]; omega
theorem own_in (x n : Int32) (hn : ¬ n < 0) (hz : ¬ n = 0) : ¬ ((x &&& (2147483647 : Int32)) % n) < 0 ∧ ((x &&& (2147483647 : Int32)) % n) < n := by
  have h1 := c_mask x (2147483647 : Int32) 31 (by decide) (by decide)
  have k1 := mt Int32.lt_iff_toInt_lt.mpr hn
  have k2 := mt Int32.toInt_inj.mp hz
  have l0 : (0 : Int32).toInt = 0 := by decide
  have h2 := (c_iremV (x &&& (2147483647 : Int32)) n).1 (by omega) (by omega)
  rw [Int32.lt_iff_toInt_lt, Int32.lt_iff_toInt_lt]
  omega
theorem pn_0 : plainName "com/example/gridwire/gridwire/arrays/TypedArrayNewItemPinLaw" = true := by first | (simp [plainName, overriddenIn]; done) | decide +kernel
theorem pd0_0 : parseMethodDescriptor "(IJ)[B" = some ⟨[.int, .long], some (.array .byte)⟩ := by decide +kernel
theorem ef_0 (m : MethodId) (p1 : Int32) (p2 : Int64) (p3 : Int32) : entryFrame m #[(.int p1), (.long p2), (.int p3)] maxLocals = mkF m 0 #[.val (.int p1), .val (.long p2), .second, .val (.int p3), .unset, .unset, .unset, .unset, .unset, .unset, .unset, .unset] [] := by first | (simp [entryFrame, mkF, argsToLocals, Value.category, maxLocals]; done) | rfl
def Q0 (Z : State) (p1 : Int32) (p2 : Int64) (p3 : Int32) (h0 : Heap) (n0 : Nat) (v : Option Value) (h : Heap) (L : List Loc) : Prop := v = some (.int (1 : Int32)) ∧ Fr n0 L
set_option maxRecDepth 65536 in
set_option maxHeartbeats 40000000 in
theorem rm0 (l : Launch) (Z : State) (a0 : Array Value) (hw : ∀ d ∈ tables_1, d.before a0 Z = true) (ws : List Jvm.Cond) (p1 : Int32) (p2 : Int64) (p3 : Int32) (h0 : Heap) (n0 : Nat) (Z0 : n0 ≤ h0.size) (O0 : Old Z n0 h0) :
    MetFree l x (head1 (Jvm.Cond.code x code maxLocals ret :: ws) room_1) (fun a U => a = #[(.int p1), (.long p2), (.int p3)] ∧ Z.Warmed39 U.vm ∧ U.heap = h0) (fun _ _ _ _ _ => True) (fun _ U o U' => ∃ v L, o = .returned v ∧ Q0 Z p1 p2 p3 h0 n0 v U'.heap L ∧ FrameEnd U o U' L 16 4288) := by
  refine MetFree.of_bodySF (plainFor_of_name pn_0) hisR ?_
  intro p e s m args below meth c s₁ Bd hml0 hP hK
  obtain ⟨rfl, hZ, hh⟩ := hP
  have hx := Bd.exec
  have hby := Bd.bytes
  have hml : c.maxLocals = 12 := hml0
  have hown : s.vm.findClass "com/example/gridwire/gridwire/arrays/TypedArrayNewItemPinLaw" = some m.cls := findClass_of_methodNamed Bd.named
  have hnm := (name_of_methodNamed Bd.named Bd.method).1
  have X0 : Stand p l e room_1 s m #[(.int p1), (.long p2), (.int p3)] below meth c s₁ [] 0 0 := Stand.of_body Bd
  have e0 : s₁.heap = h0 := by rw [← hh, Bd.state]; rfl
  have N0 := Fr.nil n0
  refine goB (ef_0 m p1 p2 p3) ?_
  show Go p.tables e below s₁ (mkF m 0 #[.val (.int p1), .val (.long p2), .second, .val (.int p3), .unset, .unset, .unset, .unset, .unset, .unset, .unset, .unset] []) _
  refine go1 (fun _ => XS.iloadN X0.here hx rfl (hb hby at_0) rfl) ?_
  show Go p.tables e below s₁ (mkF m 1 #[.val (.int p1), .val (.long p2), .second, .val (.int p3), .unset, .unset, .unset, .unset, .unset, .unset, .unset, .unset] [(.int p1)]) _
  refine go1 (fun _ => XS.bipush X0.here hx rfl (hb hby at_1)) ?_
  show Go p.tables e below s₁ (mkF m 3 #[.val (.int p1), .val (.long p2), .second, .val (.int p3), .unset, .unset, .unset, .unset, .unset, .unset, .unset, .unset] [(.int (31 : Int32)), (.int p1)]) _
  refine go1 (fun _ => XS.iand X0.here hx rfl (hb hby at_3) rfl) ?_
  show Go p.tables e below s₁ (mkF m 4 #[.val (.int p1), .val (.long p2), .second, .val (.int p3), .unset, .unset, .unset, .unset, .unset, .unset, .unset, .unset] [(.int (p1 &&& (31 : Int32)))]) _
  refine go1 (fun _ => XS.istore X0.here hx rfl (hb hby at_4) rfl (l' := #[.val (.int p1), .val (.long p2), .second, .val (.int p3), .val (.int (p1 &&& (31 : Int32))), .unset, .unset, .unset, .unset, .unset, .unset, .unset]) rfl) ?_
  show Go p.tables e below s₁ (mkF m 6 #[.val (.int p1), .val (.long p2), .second, .val (.int p3), .val (.int (p1 &&& (31 : Int32))), .unset, .unset, .unset, .unset, .unset, .unset, .unset] []) _
  refine go1 (fun _ => XS.lloadN X0.here hx rfl (hb hby at_6) rfl) ?_
  show Go p.tables e below s₁ (mkF m 7 #[.val (.int p1), .val (.long p2), .second, .val (.int p3), .val (.int (p1 &&& (31 : Int32))), .unset, .unset, .unset, .unset, .unset, .unset, .unset] [(.long p2)]) _
  refine go1 (X0.ldc2Long hx hown (mvT hZ (hw _ (List.mem_of_getElem? (i := 0) rfl))) (g := (mkF m 7 #[.val (.int p1), .val (.long p2), .second, .val (.int p3), .val (.int (p1 &&& (31 : Int32))), .unset, .unset, .unset, .unset, .unset, .unset, .unset] [(.long p2)])) rfl (hb hby at_7)) ?_
  show Go p.tables e below s₁ (mkF m 10 #[.val (.int p1), .val (.long p2), .second, .val (.int p3), .val (.int (p1 &&& (31 : Int32))), .unset, .unset, .unset, .unset, .unset, .unset, .unset] [(.long (1023 : Int64)), (.long p2)]) _
  refine go1 (fun _ => XS.land X0.here hx rfl (hb hby at_10) rfl) ?_
  show Go p.tables e below s₁ (mkF m 11 #[.val (.int p1), .val (.long p2), .second, .val (.int p3), .val (.int (p1 &&& (31 : Int32))), .unset, .unset, .unset, .unset, .unset, .unset, .unset] [(.long (p2 &&& (1023 : Int64)))]) _
  refine go1 (fun _ => XS.lstore X0.here hx rfl (hb hby at_11) rfl (l' := #[.val (.int p1), .val (.long p2), .second, .val (.int p3), .val (.int (p1 &&& (31 : Int32))), .val (.long (p2 &&& (1023 : Int64))), .second, .unset, .unset, .unset, .unset, .unset]) rfl) ?_
  show Go p.tables e below s₁ (mkF m 13 #[.val (.int p1), .val (.long p2), .second, .val (.int p3), .val (.int (p1 &&& (31 : Int32))), .val (.long (p2 &&& (1023 : Int64))), .second, .unset, .unset, .unset, .unset, .unset] []) _
  refine go1 (fun _ => XS.iload X0.here hx rfl (hb hby at_13) rfl) ?_
  show Go p.tables e below s₁ (mkF m 15 #[.val (.int p1), .val (.long p2), .second, .val (.int p3), .val (.int (p1 &&& (31 : Int32))), .val (.long (p2 &&& (1023 : Int64))), .second, .unset, .unset, .unset, .unset, .unset] [(.int (p1 &&& (31 : Int32)))]) _
  refine go1 (fun _ => XS.lload X0.here hx rfl (hb hby at_15) rfl) ?_
  show Go p.tables e below s₁ (mkF m 17 #[.val (.int p1), .val (.long p2), .second, .val (.int p3), .val (.int (p1 &&& (31 : Int32))), .val (.long (p2 &&& (1023 : Int64))), .second, .unset, .unset, .unset, .unset, .unset] [(.long (p2 &&& (1023 : Int64))), (.int (p1 &&& (31 : Int32)))]) _
  obtain ⟨_, _, ⟨T1, L1, k1, n1⟩, -, X1, ⟨Lc1, hQ1, l1, y1, z1⟩, st1⟩ := Jvm.LawKit.callS X0 hx (y := (⟨"com/example/gridwire/gridwire/arrays/TypedArray", "newItem", "(IJ)[B"⟩ : MethodName)) hown (mvT hZ (hw _ (List.mem_of_getElem? (i := 1) rfl))) (mvT hZ (hw _ (List.mem_of_getElem? (i := 2) rfl))) (mvT hZ (hw _ (List.mem_of_getElem? (i := 3) rfl))) (mvT hZ (hw _ (List.mem_of_getElem? (i := 4) rfl))) (by decide) (backOf (W := 0) (rm1 l Z a0 hw [] (p1 &&& (31 : Int32)) (p2 &&& (1023 : Int64)) h0 n0 Z0 (own_len p1 p2).1 (own_len p1 p2).2.1 (own_len p1 p2).2.2.1) hZ (hw _ (List.mem_of_getElem? (i := 4) rfl)) (hw _ (List.mem_of_getElem? (i := 3) rfl)) (by decide) (by decide)) (g := (mkF m 17 #[.val (.int p1), .val (.long p2), .second, .val (.int p3), .val (.int (p1 &&& (31 : Int32))), .val (.long (p2 &&& (1023 : Int64))), .second, .unset, .unset, .unset, .unset, .unset] [(.long (p2 &&& (1023 : Int64))), (.int (p1 &&& (31 : Int32)))])) rfl (by rw [hml]; rfl) (argsL := [(.int (p1 &&& (31 : Int32))), (.long (p2 &&& (1023 : Int64)))]) (rest := []) (lenOf pd0_0 rfl) rfl (by show 2 * 0 + _ ≤ _; exact Nat.le_of_eq rfl) (hb hby at_17) (fun _ _ => ⟨rfl, e0, (by decide : 0 + 1 ≤ _), (by decide : 0 + 1054 ≤ _)⟩)
  dsimp only [Pt.U, Pt.locs, Pt.cells, Pt.slots] at X1 l1 y1 z1 st1 hQ1
  subst l1 y1 z1
  obtain ⟨b2, k3, rfl, N1q, K1, G1_0, G1_1, G1_2⟩ := hQ1
  have N1 := Fr.app N0 N1q
  refine go1 st1 ?_
  show Go p.tables e below T1 (mkF m 20 #[.val (.int p1), .val (.long p2), .second, .val (.int p3), .val (.int (p1 &&& (31 : Int32))), .val (.long (p2 &&& (1023 : Int64))), .second, .unset, .unset, .unset, .unset, .unset] [(.ref b2)]) _
  refine go1 (fun _ => XS.astore X1.here hx rfl (hb hby at_20) rfl rfl (l' := #[.val (.int p1), .val (.long p2), .second, .val (.int p3), .val (.int (p1 &&& (31 : Int32))), .val (.long (p2 &&& (1023 : Int64))), .second, .val (.ref b2), .unset, .unset, .unset, .unset]) rfl) ?_
  show Go p.tables e below T1 (mkF m 22 #[.val (.int p1), .val (.long p2), .second, .val (.int p3), .val (.int (p1 &&& (31 : Int32))), .val (.long (p2 &&& (1023 : Int64))), .second, .val (.ref b2), .unset, .unset, .unset, .unset] []) _
  refine go1 (fun _ => XS.iload X1.here hx rfl (hb hby at_22) rfl) ?_
  show Go p.tables e below T1 (mkF m 24 #[.val (.int p1), .val (.long p2), .second, .val (.int p3), .val (.int (p1 &&& (31 : Int32))), .val (.long (p2 &&& (1023 : Int64))), .second, .val (.ref b2), .unset, .unset, .unset, .unset] [(.int (p1 &&& (31 : Int32)))]) _
  refine go1 (fun _ => XS.lload X1.here hx rfl (hb hby at_24) rfl) ?_
  show Go p.tables e below T1 (mkF m 26 #[.val (.int p1), .val (.long p2), .second, .val (.int p3), .val (.int (p1 &&& (31 : Int32))), .val (.long (p2 &&& (1023 : Int64))), .second, .val (.ref b2), .unset, .unset, .unset, .unset] [(.long (p2 &&& (1023 : Int64))), (.int (p1 &&& (31 : Int32)))]) _
  obtain ⟨_, _, ⟨T4, L4, k4, n4⟩, -, X4, ⟨Lc4, hQ4, l4, y4, z4⟩, st4⟩ := Jvm.LawKit.callS X1 hx (y := (⟨"com/example/gridwire/gridwire/arrays/TypedArray", "newItem", "(IJ)[B"⟩ : MethodName)) hown (mvT hZ (hw _ (List.mem_of_getElem? (i := 1) rfl))) (mvT hZ (hw _ (List.mem_of_getElem? (i := 2) rfl))) (mvT hZ (hw _ (List.mem_of_getElem? (i := 3) rfl))) (mvT hZ (hw _ (List.mem_of_getElem? (i := 4) rfl))) (by decide) (backOf (W := 0) (rm1 l Z a0 hw [] (p1 &&& (31 : Int32)) (p2 &&& (1023 : Int64)) T1.heap n0 (Nat.le_trans Z0 K1.1) (own_len p1 p2).1 (own_len p1 p2).2.1 (own_len p1 p2).2.2.1) hZ (hw _ (List.mem_of_getElem? (i := 4) rfl)) (hw _ (List.mem_of_getElem? (i := 3) rfl)) (by decide) (by decide)) (g := (mkF m 26 #[.val (.int p1), .val (.long p2), .second, .val (.int p3), .val (.int (p1 &&& (31 : Int32))), .val (.long (p2 &&& (1023 : Int64))), .second, .val (.ref b2), .unset, .unset, .unset, .unset] [(.long (p2 &&& (1023 : Int64))), (.int (p1 &&& (31 : Int32)))])) rfl (by rw [hml]; rfl) (argsL := [(.int (p1 &&& (31 : Int32))), (.long (p2 &&& (1023 : Int64)))]) (rest := []) (lenOf pd0_0 rfl) rfl (by show 2 * 0 + _ ≤ _; exact Nat.le_of_eq rfl) (hb hby at_26) (fun _ _ => ⟨rfl, rfl, (by decide : 1 + 1 ≤ _), (by decide : 1054 + 1054 ≤ _)⟩)
  dsimp only [Pt.U, Pt.locs, Pt.cells, Pt.slots] at X4 l4 y4 z4 st4 hQ4
  subst l4 y4 z4
  obtain ⟨b5, k6, rfl, N4q, K4, G4_0, G4_1, G4_2⟩ := hQ4
  have N4 := Fr.app N1 N4q
  refine go1 st4 ?_
  show Go p.tables e below T4 (mkF m 29 #[.val (.int p1), .val (.long p2), .second, .val (.int p3), .val (.int (p1 &&& (31 : Int32))), .val (.long (p2 &&& (1023 : Int64))), .second, .val (.ref b2), .unset, .unset, .unset, .unset] [(.ref b5)]) _
  refine go1 (fun _ => XS.astore X4.here hx rfl (hb hby at_29) rfl rfl (l' := #[.val (.int p1), .val (.long p2), .second, .val (.int p3), .val (.int (p1 &&& (31 : Int32))), .val (.long (p2 &&& (1023 : Int64))), .second, .val (.ref b2), .val (.ref b5), .unset, .unset, .unset]) rfl) ?_
  show Go p.tables e below T4 (mkF m 31 #[.val (.int p1), .val (.long p2), .second, .val (.int p3), .val (.int (p1 &&& (31 : Int32))), .val (.long (p2 &&& (1023 : Int64))), .second, .val (.ref b2), .val (.ref b5), .unset, .unset, .unset] []) _
  refine go1 (fun _ => XS.iload X4.here hx rfl (hb hby at_31) rfl) ?_
  show Go p.tables e below T4 (mkF m 33 #[.val (.int p1), .val (.long p2), .second, .val (.int p3), .val (.int (p1 &&& (31 : Int32))), .val (.long (p2 &&& (1023 : Int64))), .second, .val (.ref b2), .val (.ref b5), .unset, .unset, .unset] [(.int (p1 &&& (31 : Int32)))]) _
  refine go1 (fun _ => XS.i2l X4.here hx rfl (hb hby at_33) rfl) ?_
  show Go p.tables e below T4 (mkF m 34 #[.val (.int p1), .val (.long p2), .second, .val (.int p3), .val (.int (p1 &&& (31 : Int32))), .val (.long (p2 &&& (1023 : Int64))), .second, .val (.ref b2), .val (.ref b5), .unset, .unset, .unset] [(.long ((p1 &&& (31 : Int32)).toInt64))]) _
  refine go1 (fun _ => XS.lload X4.here hx rfl (hb hby at_34) rfl) ?_
  show Go p.tables e below T4 (mkF m 36 #[.val (.int p1), .val (.long p2), .second, .val (.int p3), .val (.int (p1 &&& (31 : Int32))), .val (.long (p2 &&& (1023 : Int64))), .second, .val (.ref b2), .val (.ref b5), .unset, .unset, .unset] [(.long (p2 &&& (1023 : Int64))), (.long ((p1 &&& (31 : Int32)).toInt64))]) _
  refine go1 (fun _ => XS.ladd X4.here hx rfl (hb hby at_36) rfl) ?_
  show Go p.tables e below T4 (mkF m 37 #[.val (.int p1), .val (.long p2), .second, .val (.int p3), .val (.int (p1 &&& (31 : Int32))), .val (.long (p2 &&& (1023 : Int64))), .second, .val (.ref b2), .val (.ref b5), .unset, .unset, .unset] [(.long (((p1 &&& (31 : Int32)).toInt64) + (p2 &&& (1023 : Int64))))]) _
  refine go1 (fun _ => XS.lstore X4.here hx rfl (hb hby at_37) rfl (l' := #[.val (.int p1), .val (.long p2), .second, .val (.int p3), .val (.int (p1 &&& (31 : Int32))), .val (.long (p2 &&& (1023 : Int64))), .second, .val (.ref b2), .val (.ref b5), .val (.long (((p1 &&& (31 : Int32)).toInt64) + (p2 &&& (1023 : Int64)))), .second, .unset]) rfl) ?_
  show Go p.tables e below T4 (mkF m 39 #[.val (.int p1), .val (.long p2), .second, .val (.int p3), .val (.int (p1 &&& (31 : Int32))), .val (.long (p2 &&& (1023 : Int64))), .second, .val (.ref b2), .val (.ref b5), .val (.long (((p1 &&& (31 : Int32)).toInt64) + (p2 &&& (1023 : Int64)))), .second, .unset] []) _
  refine go1 (fun _ => XS.aload X4.here hx rfl (hb hby at_39) rfl rfl) ?_
  show Go p.tables e below T4 (mkF m 41 #[.val (.int p1), .val (.long p2), .second, .val (.int p3), .val (.int (p1 &&& (31 : Int32))), .val (.long (p2 &&& (1023 : Int64))), .second, .val (.ref b2), .val (.ref b5), .val (.long (((p1 &&& (31 : Int32)).toInt64) + (p2 &&& (1023 : Int64)))), .second, .unset] [(.ref b2)]) _
  have vo7 := (G1_2.keep K4 nin0)
  obtain ⟨cl7, Ar7, -, S7, M7, -, -⟩ := vo7
  refine go1 (T' := T4) (g' := (mkF m 42 #[.val (.int p1), .val (.long p2), .second, .val (.int p3), .val (.int (p1 &&& (31 : Int32))), .val (.long (p2 &&& (1023 : Int64))), .second, .val (.ref b2), .val (.ref b5), .val (.long (((p1 &&& (31 : Int32)).toInt64) + (p2 &&& (1023 : Int64)))), .second, .unset] [(.int ((((p1 &&& (31 : Int32)).toInt64) + (p2 &&& (1023 : Int64))).toInt32))])) (fun t k => ?_) ?_
  · refine X4.arraylength hx Ar7.1 (State.isArrayOf_alike hZ.alike Ar7.2.1) (g := (mkF m 41 #[.val (.int p1), .val (.long p2), .second, .val (.int p3), .val (.int (p1 &&& (31 : Int32))), .val (.long (p2 &&& (1023 : Int64))), .second, .val (.ref b2), .val (.ref b5), .val (.long (((p1 &&& (31 : Int32)).toInt64) + (p2 &&& (1023 : Int64)))), .second, .unset] [(.ref b2)])) rfl rfl (hb hby at_41) _ ?_
    rw [len_of S7 M7]
    exact k
  show Go p.tables e below T4 (mkF m 42 #[.val (.int p1), .val (.long p2), .second, .val (.int p3), .val (.int (p1 &&& (31 : Int32))), .val (.long (p2 &&& (1023 : Int64))), .second, .val (.ref b2), .val (.ref b5), .val (.long (((p1 &&& (31 : Int32)).toInt64) + (p2 &&& (1023 : Int64)))), .second, .unset] [(.int ((((p1 &&& (31 : Int32)).toInt64) + (p2 &&& (1023 : Int64))).toInt32))]) _
  refine go1 (fun _ => XS.i2l X4.here hx rfl (hb hby at_42) rfl) ?_
  show Go p.tables e below T4 (mkF m 43 #[.val (.int p1), .val (.long p2), .second, .val (.int p3), .val (.int (p1 &&& (31 : Int32))), .val (.long (p2 &&& (1023 : Int64))), .second, .val (.ref b2), .val (.ref b5), .val (.long (((p1 &&& (31 : Int32)).toInt64) + (p2 &&& (1023 : Int64)))), .second, .unset] [(.long (((((p1 &&& (31 : Int32)).toInt64) + (p2 &&& (1023 : Int64))).toInt32).toInt64))]) _
  refine go1 (fun _ => XS.lload X4.here hx rfl (hb hby at_43) rfl) ?_
  show Go p.tables e below T4 (mkF m 45 #[.val (.int p1), .val (.long p2), .second, .val (.int p3), .val (.int (p1 &&& (31 : Int32))), .val (.long (p2 &&& (1023 : Int64))), .second, .val (.ref b2), .val (.ref b5), .val (.long (((p1 &&& (31 : Int32)).toInt64) + (p2 &&& (1023 : Int64)))), .second, .unset] [(.long (((p1 &&& (31 : Int32)).toInt64) + (p2 &&& (1023 : Int64)))), (.long (((((p1 &&& (31 : Int32)).toInt64) + (p2 &&& (1023 : Int64))).toInt32).toInt64))]) _
  refine go1 (fun _ => XS.lcmp X4.here hx rfl (hb hby at_45) rfl) ?_
  show Go p.tables e below T4 (mkF m 46 #[.val (.int p1), .val (.long p2), .second, .val (.int p3), .val (.int (p1 &&& (31 : Int32))), .val (.long (p2 &&& (1023 : Int64))), .second, .val (.ref b2), .val (.ref b5), .val (.long (((p1 &&& (31 : Int32)).toInt64) + (p2 &&& (1023 : Int64)))), .second, .unset] [(.int (lcmpW (((((p1 &&& (31 : Int32)).toInt64) + (p2 &&& (1023 : Int64))).toInt32).toInt64) (((p1 &&& (31 : Int32)).toInt64) + (p2 &&& (1023 : Int64)))))]) _
  refine go1 (fun _ => XS.ifNo X4.here hx rfl (hb hby at_46) rfl ((if0 _ _).trans (teq ((lw_eq _ _).mpr (own_len p1 p2).2.2.2)).2)) ?_
  show Go p.tables e below T4 (mkF m 49 #[.val (.int p1), .val (.long p2), .second, .val (.int p3), .val (.int (p1 &&& (31 : Int32))), .val (.long (p2 &&& (1023 : Int64))), .second, .val (.ref b2), .val (.ref b5), .val (.long (((p1 &&& (31 : Int32)).toInt64) + (p2 &&& (1023 : Int64)))), .second, .unset] []) _
  refine go1 (fun _ => XS.aload X4.here hx rfl (hb hby at_49) rfl rfl) ?_
  show Go p.tables e below T4 (mkF m 51 #[.val (.int p1), .val (.long p2), .second, .val (.int p3), .val (.int (p1 &&& (31 : Int32))), .val (.long (p2 &&& (1023 : Int64))), .second, .val (.ref b2), .val (.ref b5), .val (.long (((p1 &&& (31 : Int32)).toInt64) + (p2 &&& (1023 : Int64)))), .second, .unset] [(.ref b5)]) _
  have vo8 := G4_2
  obtain ⟨cl8, Ar8, -, S8, M8, -, -⟩ := vo8
  refine go1 (T' := T4) (g' := (mkF m 52 #[.val (.int p1), .val (.long p2), .second, .val (.int p3), .val (.int (p1 &&& (31 : Int32))), .val (.long (p2 &&& (1023 : Int64))), .second, .val (.ref b2), .val (.ref b5), .val (.long (((p1 &&& (31 : Int32)).toInt64) + (p2 &&& (1023 : Int64)))), .second, .unset] [(.int ((((p1 &&& (31 : Int32)).toInt64) + (p2 &&& (1023 : Int64))).toInt32))])) (fun t k => ?_) ?_
  · refine X4.arraylength hx Ar8.1 (State.isArrayOf_alike hZ.alike Ar8.2.1) (g := (mkF m 51 #[.val (.int p1), .val (.long p2), .second, .val (.int p3), .val (.int (p1 &&& (31 : Int32))), .val (.long (p2 &&& (1023 : Int64))), .second, .val (.ref b2), .val (.ref b5), .val (.long (((p1 &&& (31 : Int32)).toInt64) + (p2 &&& (1023 : Int64)))), .second, .unset] [(.ref b5)])) rfl rfl (hb hby at_51) _ ?_
    rw [len_of S8 M8]
    exact k
  show Go p.tables e below T4 (mkF m 52 #[.val (.int p1), .val (.long p2), .second, .val (.int p3), .val (.int (p1 &&& (31 : Int32))), .val (.long (p2 &&& (1023 : Int64))), .second, .val (.ref b2), .val (.ref b5), .val (.long (((p1 &&& (31 : Int32)).toInt64) + (p2 &&& (1023 : Int64)))), .second, .unset] [(.int ((((p1 &&& (31 : Int32)).toInt64) + (p2 &&& (1023 : Int64))).toInt32))]) _
  refine go1 (fun _ => XS.i2l X4.here hx rfl (hb hby at_52) rfl) ?_
  show Go p.tables e below T4 (mkF m 53 #[.val (.int p1), .val (.long p2), .second, .val (.int p3), .val (.int (p1 &&& (31 : Int32))), .val (.long (p2 &&& (1023 : Int64))), .second, .val (.ref b2), .val (.ref b5), .val (.long (((p1 &&& (31 : Int32)).toInt64) + (p2 &&& (1023 : Int64)))), .second, .unset] [(.long (((((p1 &&& (31 : Int32)).toInt64) + (p2 &&& (1023 : Int64))).toInt32).toInt64))]) _
  refine go1 (fun _ => XS.lload X4.here hx rfl (hb hby at_53) rfl) ?_
  show Go p.tables e below T4 (mkF m 55 #[.val (.int p1), .val (.long p2), .second, .val (.int p3), .val (.int (p1 &&& (31 : Int32))), .val (.long (p2 &&& (1023 : Int64))), .second, .val (.ref b2), .val (.ref b5), .val (.long (((p1 &&& (31 : Int32)).toInt64) + (p2 &&& (1023 : Int64)))), .second, .unset] [(.long (((p1 &&& (31 : Int32)).toInt64) + (p2 &&& (1023 : Int64)))), (.long (((((p1 &&& (31 : Int32)).toInt64) + (p2 &&& (1023 : Int64))).toInt32).toInt64))]) _
  refine go1 (fun _ => XS.lcmp X4.here hx rfl (hb hby at_55) rfl) ?_
  show Go p.tables e below T4 (mkF m 56 #[.val (.int p1), .val (.long p2), .second, .val (.int p3), .val (.int (p1 &&& (31 : Int32))), .val (.long (p2 &&& (1023 : Int64))), .second, .val (.ref b2), .val (.ref b5), .val (.long (((p1 &&& (31 : Int32)).toInt64) + (p2 &&& (1023 : Int64)))), .second, .unset] [(.int (lcmpW (((((p1 &&& (31 : Int32)).toInt64) + (p2 &&& (1023 : Int64))).toInt32).toInt64) (((p1 &&& (31 : Int32)).toInt64) + (p2 &&& (1023 : Int64)))))]) _
  refine go1 (fun _ => XS.ifYes X4.here hx rfl (pc0 := 56) (pc' := 61) rfl (hb hby at_56) rfl ((if0 _ _).trans (teq ((lw_eq _ _).mpr (own_len p1 p2).2.2.2)).1) (by decide) (by decide)) ?_
  show Go p.tables e below T4 (mkF m 61 #[.val (.int p1), .val (.long p2), .second, .val (.int p3), .val (.int (p1 &&& (31 : Int32))), .val (.long (p2 &&& (1023 : Int64))), .second, .val (.ref b2), .val (.ref b5), .val (.long (((p1 &&& (31 : Int32)).toInt64) + (p2 &&& (1023 : Int64)))), .second, .unset] []) _
  refine go1 (fun _ => XS.aload X4.here hx rfl (hb hby at_61) rfl rfl) ?_
  show Go p.tables e below T4 (mkF m 63 #[.val (.int p1), .val (.long p2), .second, .val (.int p3), .val (.int (p1 &&& (31 : Int32))), .val (.long (p2 &&& (1023 : Int64))), .second, .val (.ref b2), .val (.ref b5), .val (.long (((p1 &&& (31 : Int32)).toInt64) + (p2 &&& (1023 : Int64)))), .second, .unset] [(.ref b2)]) _
  refine go1 (fun _ => XS.aload X4.here hx rfl (hb hby at_63) rfl rfl) ?_
  show Go p.tables e below T4 (mkF m 65 #[.val (.int p1), .val (.long p2), .second, .val (.int p3), .val (.int (p1 &&& (31 : Int32))), .val (.long (p2 &&& (1023 : Int64))), .second, .val (.ref b2), .val (.ref b5), .val (.long (((p1 &&& (31 : Int32)).toInt64) + (p2 &&& (1023 : Int64)))), .second, .unset] [(.ref b5), (.ref b2)]) _
  refine go1 (fun _ => Jvm.RoadKit.acmp (g := (mkF m 65 #[.val (.int p1), .val (.long p2), .second, .val (.int p3), .val (.int (p1 &&& (31 : Int32))), .val (.long (p2 &&& (1023 : Int64))), .second, .val (.ref b2), .val (.ref b5), .val (.long (((p1 &&& (31 : Int32)).toInt64) + (p2 &&& (1023 : Int64)))), .second, .unset] [(.ref b5), (.ref b2)])) X4 hx rfl rfl rfl (pc0 := 65) (pc' := 70) (same := false) rfl (hb hby at_65) rfl (decide_eq_false fun q => (Nat.ne_of_lt (Nat.lt_of_lt_of_le G1_2.lt G4_1)) (Value.ref.inj q)) (by decide) (by decide)) ?_
  show Go p.tables e below T4 (mkF m 70 #[.val (.int p1), .val (.long p2), .second, .val (.int p3), .val (.int (p1 &&& (31 : Int32))), .val (.long (p2 &&& (1023 : Int64))), .second, .val (.ref b2), .val (.ref b5), .val (.long (((p1 &&& (31 : Int32)).toInt64) + (p2 &&& (1023 : Int64)))), .second, .unset] []) _
  refine go1 (fun _ => XS.aload X4.here hx rfl (hb hby at_70) rfl rfl) ?_
  show Go p.tables e below T4 (mkF m 72 #[.val (.int p1), .val (.long p2), .second, .val (.int p3), .val (.int (p1 &&& (31 : Int32))), .val (.long (p2 &&& (1023 : Int64))), .second, .val (.ref b2), .val (.ref b5), .val (.long (((p1 &&& (31 : Int32)).toInt64) + (p2 &&& (1023 : Int64)))), .second, .unset] [(.ref b2)]) _
  have vo9 := (G1_2.keep K4 nin0)
  obtain ⟨cl9, Ar9, -, S9, M9, -, -⟩ := vo9
  refine go1 (T' := T4) (g' := (mkF m 73 #[.val (.int p1), .val (.long p2), .second, .val (.int p3), .val (.int (p1 &&& (31 : Int32))), .val (.long (p2 &&& (1023 : Int64))), .second, .val (.ref b2), .val (.ref b5), .val (.long (((p1 &&& (31 : Int32)).toInt64) + (p2 &&& (1023 : Int64)))), .second, .unset] [(.int ((((p1 &&& (31 : Int32)).toInt64) + (p2 &&& (1023 : Int64))).toInt32))])) (fun t k => ?_) ?_
  · refine X4.arraylength hx Ar9.1 (State.isArrayOf_alike hZ.alike Ar9.2.1) (g := (mkF m 72 #[.val (.int p1), .val (.long p2), .second, .val (.int p3), .val (.int (p1 &&& (31 : Int32))), .val (.long (p2 &&& (1023 : Int64))), .second, .val (.ref b2), .val (.ref b5), .val (.long (((p1 &&& (31 : Int32)).toInt64) + (p2 &&& (1023 : Int64)))), .second, .unset] [(.ref b2)])) rfl rfl (hb hby at_72) _ ?_
    rw [len_of S9 M9]
    exact k
  show Go p.tables e below T4 (mkF m 73 #[.val (.int p1), .val (.long p2), .second, .val (.int p3), .val (.int (p1 &&& (31 : Int32))), .val (.long (p2 &&& (1023 : Int64))), .second, .val (.ref b2), .val (.ref b5), .val (.long (((p1 &&& (31 : Int32)).toInt64) + (p2 &&& (1023 : Int64)))), .second, .unset] [(.int ((((p1 &&& (31 : Int32)).toInt64) + (p2 &&& (1023 : Int64))).toInt32))]) _
  by_cases hc10 : ((((p1 &&& (31 : Int32)).toInt64) + (p2 &&& (1023 : Int64))).toInt32) = (0 : Int32)
  · skip
    refine go1 (fun _ => XS.ifNo X4.here hx rfl (hb hby at_73) rfl ((if0 _ _).trans (teq hc10).2)) ?_
    show Go p.tables e below T4 (mkF m 76 #[.val (.int p1), .val (.long p2), .second, .val (.int p3), .val (.int (p1 &&& (31 : Int32))), .val (.long (p2 &&& (1023 : Int64))), .second, .val (.ref b2), .val (.ref b5), .val (.long (((p1 &&& (31 : Int32)).toInt64) + (p2 &&& (1023 : Int64)))), .second, .unset] []) _
    refine go1 (fun _ => XS.iconst X4.here hx rfl (hb hby at_76)) ?_
    show Go p.tables e below T4 (mkF m 77 #[.val (.int p1), .val (.long p2), .second, .val (.int p3), .val (.int (p1 &&& (31 : Int32))), .val (.long (p2 &&& (1023 : Int64))), .second, .val (.ref b2), .val (.ref b5), .val (.long (((p1 &&& (31 : Int32)).toInt64) + (p2 &&& (1023 : Int64)))), .second, .unset] [(.int (1 : Int32))]) _
    refine goR X4 (BodyLoose.notSynchronized Bd) (v := (some (.int (1 : Int32)))) (fun h => by rw [Bd.returns] at h; cases h) (Q0 Z p1 p2 p3 h0 n0) (fun fs hr => retN X4 hx (t := .boolean) Bd.returns (by simp) (hb hby at_77) hr) (by decide) (by decide) ?_
    show Q0 Z p1 p2 p3 h0 n0 _ T4.heap _
    exact ⟨rfl, N4⟩
  · skip
    refine go1 (fun _ => XS.ifYes X4.here hx rfl (pc0 := 73) (pc' := 78) rfl (hb hby at_73) rfl ((if0 _ _).trans (feq hc10).2) (by decide) (by decide)) ?_
    show Go p.tables e below T4 (mkF m 78 #[.val (.int p1), .val (.long p2), .second, .val (.int p3), .val (.int (p1 &&& (31 : Int32))), .val (.long (p2 &&& (1023 : Int64))), .second, .val (.ref b2), .val (.ref b5), .val (.long (((p1 &&& (31 : Int32)).toInt64) + (p2 &&& (1023 : Int64)))), .second, .unset] []) _
    refine go1 (fun _ => XS.iloadN X4.here hx rfl (hb hby at_78) rfl) ?_
    show Go p.tables e below T4 (mkF m 79 #[.val (.int p1), .val (.long p2), .second, .val (.int p3), .val (.int (p1 &&& (31 : Int32))), .val (.long (p2 &&& (1023 : Int64))), .second, .val (.ref b2), .val (.ref b5), .val (.long (((p1 &&& (31 : Int32)).toInt64) + (p2 &&& (1023 : Int64)))), .second, .unset] [(.int p3)]) _
    refine go1 (X4.ldcInt hx hown (mvT hZ (hw _ (List.mem_of_getElem? (i := 7) rfl))) (g := (mkF m 79 #[.val (.int p1), .val (.long p2), .second, .val (.int p3), .val (.int (p1 &&& (31 : Int32))), .val (.long (p2 &&& (1023 : Int64))), .second, .val (.ref b2), .val (.ref b5), .val (.long (((p1 &&& (31 : Int32)).toInt64) + (p2 &&& (1023 : Int64)))), .second, .unset] [(.int p3)])) rfl (hb hby at_79)) ?_
    show Go p.tables e below T4 (mkF m 81 #[.val (.int p1), .val (.long p2), .second, .val (.int p3), .val (.int (p1 &&& (31 : Int32))), .val (.long (p2 &&& (1023 : Int64))), .second, .val (.ref b2), .val (.ref b5), .val (.long (((p1 &&& (31 : Int32)).toInt64) + (p2 &&& (1023 : Int64)))), .second, .unset] [(.int (2147483647 : Int32)), (.int p3)]) _
    refine go1 (fun _ => XS.iand X4.here hx rfl (hb hby at_81) rfl) ?_
    show Go p.tables e below T4 (mkF m 82 #[.val (.int p1), .val (.long p2), .second, .val (.int p3), .val (.int (p1 &&& (31 : Int32))), .val (.long (p2 &&& (1023 : Int64))), .second, .val (.ref b2), .val (.ref b5), .val (.long (((p1 &&& (31 : Int32)).toInt64) + (p2 &&& (1023 : Int64)))), .second, .unset] [(.int (p3 &&& (2147483647 : Int32)))]) _
    refine go1 (fun _ => XS.aload X4.here hx rfl (hb hby at_82) rfl rfl) ?_
    show Go p.tables e below T4 (mkF m 84 #[.val (.int p1), .val (.long p2), .second, .val (.int p3), .val (.int (p1 &&& (31 : Int32))), .val (.long (p2 &&& (1023 : Int64))), .second, .val (.ref b2), .val (.ref b5), .val (.long (((p1 &&& (31 : Int32)).toInt64) + (p2 &&& (1023 : Int64)))), .second, .unset] [(.ref b2), (.int (p3 &&& (2147483647 : Int32)))]) _
    have vo11 := (G1_2.keep K4 nin0)
    obtain ⟨cl11, Ar11, -, S11, M11, -, -⟩ := vo11
    refine go1 (T' := T4) (g' := (mkF m 85 #[.val (.int p1), .val (.long p2), .second, .val (.int p3), .val (.int (p1 &&& (31 : Int32))), .val (.long (p2 &&& (1023 : Int64))), .second, .val (.ref b2), .val (.ref b5), .val (.long (((p1 &&& (31 : Int32)).toInt64) + (p2 &&& (1023 : Int64)))), .second, .unset] [(.int ((((p1 &&& (31 : Int32)).toInt64) + (p2 &&& (1023 : Int64))).toInt32)), (.int (p3 &&& (2147483647 : Int32)))])) (fun t k => ?_) ?_
    · refine X4.arraylength hx Ar11.1 (State.isArrayOf_alike hZ.alike Ar11.2.1) (g := (mkF m 84 #[.val (.int p1), .val (.long p2), .second, .val (.int p3), .val (.int (p1 &&& (31 : Int32))), .val (.long (p2 &&& (1023 : Int64))), .second, .val (.ref b2), .val (.ref b5), .val (.long (((p1 &&& (31 : Int32)).toInt64) + (p2 &&& (1023 : Int64)))), .second, .unset] [(.ref b2), (.int (p3 &&& (2147483647 : Int32)))])) rfl rfl (hb hby at_84) _ ?_
      rw [len_of S11 M11]
      exact k
    show Go p.tables e below T4 (mkF m 85 #[.val (.int p1), .val (.long p2), .second, .val (.int p3), .val (.int (p1 &&& (31 : Int32))), .val (.long (p2 &&& (1023 : Int64))), .second, .val (.ref b2), .val (.ref b5), .val (.long (((p1 &&& (31 : Int32)).toInt64) + (p2 &&& (1023 : Int64)))), .second, .unset] [(.int ((((p1 &&& (31 : Int32)).toInt64) + (p2 &&& (1023 : Int64))).toInt32)), (.int (p3 &&& (2147483647 : Int32)))]) _
    refine go1 (fun _ => XS.irem X4.here hx rfl (hb hby at_85) rfl hc10) ?_
    rw [irem_eq_mod (p3 &&& (2147483647 : Int32)) ((((p1 &&& (31 : Int32)).toInt64) + (p2 &&& (1023 : Int64))).toInt32)]
    show Go p.tables e below T4 (mkF m 86 #[.val (.int p1), .val (.long p2), .second, .val (.int p3), .val (.int (p1 &&& (31 : Int32))), .val (.long (p2 &&& (1023 : Int64))), .second, .val (.ref b2), .val (.ref b5), .val (.long (((p1 &&& (31 : Int32)).toInt64) + (p2 &&& (1023 : Int64)))), .second, .unset] [(.int ((p3 &&& (2147483647 : Int32)) % ((((p1 &&& (31 : Int32)).toInt64) + (p2 &&& (1023 : Int64))).toInt32)))]) _
    refine go1 (fun _ => XS.istore X4.here hx rfl (hb hby at_86) rfl (l' := #[.val (.int p1), .val (.long p2), .second, .val (.int p3), .val (.int (p1 &&& (31 : Int32))), .val (.long (p2 &&& (1023 : Int64))), .second, .val (.ref b2), .val (.ref b5), .val (.long (((p1 &&& (31 : Int32)).toInt64) + (p2 &&& (1023 : Int64)))), .second, .val (.int ((p3 &&& (2147483647 : Int32)) % ((((p1 &&& (31 : Int32)).toInt64) + (p2 &&& (1023 : Int64))).toInt32)))]) rfl) ?_
    show Go p.tables e below T4 (mkF m 88 #[.val (.int p1), .val (.long p2), .second, .val (.int p3), .val (.int (p1 &&& (31 : Int32))), .val (.long (p2 &&& (1023 : Int64))), .second, .val (.ref b2), .val (.ref b5), .val (.long (((p1 &&& (31 : Int32)).toInt64) + (p2 &&& (1023 : Int64)))), .second, .val (.int ((p3 &&& (2147483647 : Int32)) % ((((p1 &&& (31 : Int32)).toInt64) + (p2 &&& (1023 : Int64))).toInt32)))] []) _
    refine go1 (fun _ => XS.aload X4.here hx rfl (hb hby at_88) rfl rfl) ?_
    show Go p.tables e below T4 (mkF m 90 #[.val (.int p1), .val (.long p2), .second, .val (.int p3), .val (.int (p1 &&& (31 : Int32))), .val (.long (p2 &&& (1023 : Int64))), .second, .val (.ref b2), .val (.ref b5), .val (.long (((p1 &&& (31 : Int32)).toInt64) + (p2 &&& (1023 : Int64)))), .second, .val (.int ((p3 &&& (2147483647 : Int32)) % ((((p1 &&& (31 : Int32)).toInt64) + (p2 &&& (1023 : Int64))).toInt32)))] [(.ref b2)]) _
    refine go1 (fun _ => XS.iload X4.here hx rfl (hb hby at_90) rfl) ?_
    show Go p.tables e below T4 (mkF m 92 #[.val (.int p1), .val (.long p2), .second, .val (.int p3), .val (.int (p1 &&& (31 : Int32))), .val (.long (p2 &&& (1023 : Int64))), .second, .val (.ref b2), .val (.ref b5), .val (.long (((p1 &&& (31 : Int32)).toInt64) + (p2 &&& (1023 : Int64)))), .second, .val (.int ((p3 &&& (2147483647 : Int32)) % ((((p1 &&& (31 : Int32)).toInt64) + (p2 &&& (1023 : Int64))).toInt32)))] [(.int ((p3 &&& (2147483647 : Int32)) % ((((p1 &&& (31 : Int32)).toInt64) + (p2 &&& (1023 : Int64))).toInt32))), (.ref b2)]) _
    have vo12 := (G1_2.keep K4 nin0)
    obtain ⟨cl12, Ar12, -, S12, M12, H12, -⟩ := vo12
    have hin12 := inb_of S12 (own_in p3 ((((p1 &&& (31 : Int32)).toInt64) + (p2 &&& (1023 : Int64))).toInt32) (own_len p1 p2).2.1 hc10)
    have hat12 := H12.at hin12 (rfl : ([] : List Value).getD _ (.int 0) = .int 0)
    refine go1 (X4.baloadBytes hx (j := ((p3 &&& (2147483647 : Int32)) % ((((p1 &&& (31 : Int32)).toInt64) + (p2 &&& (1023 : Int64))).toInt32))) (v := (.int (0 : Int32))) Ar12.1 (State.isArrayOf_alike hZ.alike Ar12.2.1) Ar12.2.2 hin12 hat12 (g := (mkF m 92 #[.val (.int p1), .val (.long p2), .second, .val (.int p3), .val (.int (p1 &&& (31 : Int32))), .val (.long (p2 &&& (1023 : Int64))), .second, .val (.ref b2), .val (.ref b5), .val (.long (((p1 &&& (31 : Int32)).toInt64) + (p2 &&& (1023 : Int64)))), .second, .val (.int ((p3 &&& (2147483647 : Int32)) % ((((p1 &&& (31 : Int32)).toInt64) + (p2 &&& (1023 : Int64))).toInt32)))] [(.int ((p3 &&& (2147483647 : Int32)) % ((((p1 &&& (31 : Int32)).toInt64) + (p2 &&& (1023 : Int64))).toInt32))), (.ref b2)])) rfl rfl (hb hby at_92)) ?_
    show Go p.tables e below T4 (mkF m 93 #[.val (.int p1), .val (.long p2), .second, .val (.int p3), .val (.int (p1 &&& (31 : Int32))), .val (.long (p2 &&& (1023 : Int64))), .second, .val (.ref b2), .val (.ref b5), .val (.long (((p1 &&& (31 : Int32)).toInt64) + (p2 &&& (1023 : Int64)))), .second, .val (.int ((p3 &&& (2147483647 : Int32)) % ((((p1 &&& (31 : Int32)).toInt64) + (p2 &&& (1023 : Int64))).toInt32)))] [(.int (0 : Int32))]) _
    refine go1 (fun _ => XS.ifNo X4.here hx rfl (hb hby at_93) rfl ((if0 _ _).trans (teq (by decide : (0 : Int32) = (0 : Int32))).2)) ?_
    show Go p.tables e below T4 (mkF m 96 #[.val (.int p1), .val (.long p2), .second, .val (.int p3), .val (.int (p1 &&& (31 : Int32))), .val (.long (p2 &&& (1023 : Int64))), .second, .val (.ref b2), .val (.ref b5), .val (.long (((p1 &&& (31 : Int32)).toInt64) + (p2 &&& (1023 : Int64)))), .second, .val (.int ((p3 &&& (2147483647 : Int32)) % ((((p1 &&& (31 : Int32)).toInt64) + (p2 &&& (1023 : Int64))).toInt32)))] []) _
    refine go1 (fun _ => XS.aload X4.here hx rfl (hb hby at_96) rfl rfl) ?_
    show Go p.tables e below T4 (mkF m 98 #[.val (.int p1), .val (.long p2), .second, .val (.int p3), .val (.int (p1 &&& (31 : Int32))), .val (.long (p2 &&& (1023 : Int64))), .second, .val (.ref b2), .val (.ref b5), .val (.long (((p1 &&& (31 : Int32)).toInt64) + (p2 &&& (1023 : Int64)))), .second, .val (.int ((p3 &&& (2147483647 : Int32)) % ((((p1 &&& (31 : Int32)).toInt64) + (p2 &&& (1023 : Int64))).toInt32)))] [(.ref b5)]) _
    refine go1 (fun _ => XS.iload X4.here hx rfl (hb hby at_98) rfl) ?_
    show Go p.tables e below T4 (mkF m 100 #[.val (.int p1), .val (.long p2), .second, .val (.int p3), .val (.int (p1 &&& (31 : Int32))), .val (.long (p2 &&& (1023 : Int64))), .second, .val (.ref b2), .val (.ref b5), .val (.long (((p1 &&& (31 : Int32)).toInt64) + (p2 &&& (1023 : Int64)))), .second, .val (.int ((p3 &&& (2147483647 : Int32)) % ((((p1 &&& (31 : Int32)).toInt64) + (p2 &&& (1023 : Int64))).toInt32)))] [(.int ((p3 &&& (2147483647 : Int32)) % ((((p1 &&& (31 : Int32)).toInt64) + (p2 &&& (1023 : Int64))).toInt32))), (.ref b5)]) _
    have vo13 := G4_2
    obtain ⟨cl13, Ar13, -, S13, M13, H13, -⟩ := vo13
    have hin13 := inb_of S13 (own_in p3 ((((p1 &&& (31 : Int32)).toInt64) + (p2 &&& (1023 : Int64))).toInt32) (own_len p1 p2).2.1 hc10)
    have hat13 := H13.at hin13 (rfl : ([] : List Value).getD _ (.int 0) = .int 0)
    refine go1 (X4.baloadBytes hx (j := ((p3 &&& (2147483647 : Int32)) % ((((p1 &&& (31 : Int32)).toInt64) + (p2 &&& (1023 : Int64))).toInt32))) (v := (.int (0 : Int32))) Ar13.1 (State.isArrayOf_alike hZ.alike Ar13.2.1) Ar13.2.2 hin13 hat13 (g := (mkF m 100 #[.val (.int p1), .val (.long p2), .second, .val (.int p3), .val (.int (p1 &&& (31 : Int32))), .val (.long (p2 &&& (1023 : Int64))), .second, .val (.ref b2), .val (.ref b5), .val (.long (((p1 &&& (31 : Int32)).toInt64) + (p2 &&& (1023 : Int64)))), .second, .val (.int ((p3 &&& (2147483647 : Int32)) % ((((p1 &&& (31 : Int32)).toInt64) + (p2 &&& (1023 : Int64))).toInt32)))] [(.int ((p3 &&& (2147483647 : Int32)) % ((((p1 &&& (31 : Int32)).toInt64) + (p2 &&& (1023 : Int64))).toInt32))), (.ref b5)])) rfl rfl (hb hby at_100)) ?_
    show Go p.tables e below T4 (mkF m 101 #[.val (.int p1), .val (.long p2), .second, .val (.int p3), .val (.int (p1 &&& (31 : Int32))), .val (.long (p2 &&& (1023 : Int64))), .second, .val (.ref b2), .val (.ref b5), .val (.long (((p1 &&& (31 : Int32)).toInt64) + (p2 &&& (1023 : Int64)))), .second, .val (.int ((p3 &&& (2147483647 : Int32)) % ((((p1 &&& (31 : Int32)).toInt64) + (p2 &&& (1023 : Int64))).toInt32)))] [(.int (0 : Int32))]) _
    refine go1 (fun _ => XS.ifYes X4.here hx rfl (pc0 := 101) (pc' := 106) rfl (hb hby at_101) rfl ((if0 _ _).trans (teq (by decide : (0 : Int32) = (0 : Int32))).1) (by decide) (by decide)) ?_
    show Go p.tables e below T4 (mkF m 106 #[.val (.int p1), .val (.long p2), .second, .val (.int p3), .val (.int (p1 &&& (31 : Int32))), .val (.long (p2 &&& (1023 : Int64))), .second, .val (.ref b2), .val (.ref b5), .val (.long (((p1 &&& (31 : Int32)).toInt64) + (p2 &&& (1023 : Int64)))), .second, .val (.int ((p3 &&& (2147483647 : Int32)) % ((((p1 &&& (31 : Int32)).toInt64) + (p2 &&& (1023 : Int64))).toInt32)))] []) _
    refine go1 (fun _ => XS.aload X4.here hx rfl (hb hby at_106) rfl rfl) ?_
    show Go p.tables e below T4 (mkF m 108 #[.val (.int p1), .val (.long p2), .second, .val (.int p3), .val (.int (p1 &&& (31 : Int32))), .val (.long (p2 &&& (1023 : Int64))), .second, .val (.ref b2), .val (.ref b5), .val (.long (((p1 &&& (31 : Int32)).toInt64) + (p2 &&& (1023 : Int64)))), .second, .val (.int ((p3 &&& (2147483647 : Int32)) % ((((p1 &&& (31 : Int32)).toInt64) + (p2 &&& (1023 : Int64))).toInt32)))] [(.ref b2)]) _
    refine go1 (fun _ => XS.iload X4.here hx rfl (hb hby at_108) rfl) ?_
    show Go p.tables e below T4 (mkF m 110 #[.val (.int p1), .val (.long p2), .second, .val (.int p3), .val (.int (p1 &&& (31 : Int32))), .val (.long (p2 &&& (1023 : Int64))), .second, .val (.ref b2), .val (.ref b5), .val (.long (((p1 &&& (31 : Int32)).toInt64) + (p2 &&& (1023 : Int64)))), .second, .val (.int ((p3 &&& (2147483647 : Int32)) % ((((p1 &&& (31 : Int32)).toInt64) + (p2 &&& (1023 : Int64))).toInt32)))] [(.int ((p3 &&& (2147483647 : Int32)) % ((((p1 &&& (31 : Int32)).toInt64) + (p2 &&& (1023 : Int64))).toInt32))), (.ref b2)]) _
    refine go1 (fun _ => XS.iconst X4.here hx rfl (hb hby at_110)) ?_
    show Go p.tables e below T4 (mkF m 111 #[.val (.int p1), .val (.long p2), .second, .val (.int p3), .val (.int (p1 &&& (31 : Int32))), .val (.long (p2 &&& (1023 : Int64))), .second, .val (.ref b2), .val (.ref b5), .val (.long (((p1 &&& (31 : Int32)).toInt64) + (p2 &&& (1023 : Int64)))), .second, .val (.int ((p3 &&& (2147483647 : Int32)) % ((((p1 &&& (31 : Int32)).toInt64) + (p2 &&& (1023 : Int64))).toInt32)))] [(.int (1 : Int32)), (.int ((p3 &&& (2147483647 : Int32)) % ((((p1 &&& (31 : Int32)).toInt64) + (p2 &&& (1023 : Int64))).toInt32))), (.ref b2)]) _
    have vo14 := (G1_2.keep K4 nin0)
    obtain ⟨cl14, Ar14, q14, S14, M14, H14, G14⟩ := vo14
    have hin14 := inb_of S14 (own_in p3 ((((p1 &&& (31 : Int32)).toInt64) + (p2 &&& (1023 : Int64))).toInt32) (own_len p1 p2).2.1 hc10)
    obtain ⟨T14, h14, X14, e14, W14, st14⟩ := stB X4 hx hZ rfl Ar14 (j := ((p3 &&& (2147483647 : Int32)) % ((((p1 &&& (31 : Int32)).toInt64) + (p2 &&& (1023 : Int64))).toInt32))) hin14 (g := (mkF m 111 #[.val (.int p1), .val (.long p2), .second, .val (.int p3), .val (.int (p1 &&& (31 : Int32))), .val (.long (p2 &&& (1023 : Int64))), .second, .val (.ref b2), .val (.ref b5), .val (.long (((p1 &&& (31 : Int32)).toInt64) + (p2 &&& (1023 : Int64)))), .second, .val (.int ((p3 &&& (2147483647 : Int32)) % ((((p1 &&& (31 : Int32)).toInt64) + (p2 &&& (1023 : Int64))).toInt32)))] [(.int (1 : Int32)), (.int ((p3 &&& (2147483647 : Int32)) % ((((p1 &&& (31 : Int32)).toInt64) + (p2 &&& (1023 : Int64))).toInt32))), (.ref b2)])) rfl rfl (hb hby at_111)
    refine go1 st14 ?_
    have N14 := Fr.snoc X14 N4 G1_0
    show Go p.tables e below T14 (mkF m 112 #[.val (.int p1), .val (.long p2), .second, .val (.int p3), .val (.int (p1 &&& (31 : Int32))), .val (.long (p2 &&& (1023 : Int64))), .second, .val (.ref b2), .val (.ref b5), .val (.long (((p1 &&& (31 : Int32)).toInt64) + (p2 &&& (1023 : Int64)))), .second, .val (.int ((p3 &&& (2147483647 : Int32)) % ((((p1 &&& (31 : Int32)).toInt64) + (p2 &&& (1023 : Int64))).toInt32)))] []) _
    refine go1 (fun _ => XS.aload X14.here hx rfl (hb hby at_112) rfl rfl) ?_
    show Go p.tables e below T14 (mkF m 114 #[.val (.int p1), .val (.long p2), .second, .val (.int p3), .val (.int (p1 &&& (31 : Int32))), .val (.long (p2 &&& (1023 : Int64))), .second, .val (.ref b2), .val (.ref b5), .val (.long (((p1 &&& (31 : Int32)).toInt64) + (p2 &&& (1023 : Int64)))), .second, .val (.int ((p3 &&& (2147483647 : Int32)) % ((((p1 &&& (31 : Int32)).toInt64) + (p2 &&& (1023 : Int64))).toInt32)))] [(.ref b5)]) _
    refine go1 (fun _ => XS.iload X14.here hx rfl (hb hby at_114) rfl) ?_
    show Go p.tables e below T14 (mkF m 116 #[.val (.int p1), .val (.long p2), .second, .val (.int p3), .val (.int (p1 &&& (31 : Int32))), .val (.long (p2 &&& (1023 : Int64))), .second, .val (.ref b2), .val (.ref b5), .val (.long (((p1 &&& (31 : Int32)).toInt64) + (p2 &&& (1023 : Int64)))), .second, .val (.int ((p3 &&& (2147483647 : Int32)) % ((((p1 &&& (31 : Int32)).toInt64) + (p2 &&& (1023 : Int64))).toInt32)))] [(.int ((p3 &&& (2147483647 : Int32)) % ((((p1 &&& (31 : Int32)).toInt64) + (p2 &&& (1023 : Int64))).toInt32))), (.ref b5)]) _
    have vo15 := (G4_2.other W14 (Ne.symm (Nat.ne_of_lt (Nat.lt_of_lt_of_le G1_2.lt G4_1))))
    obtain ⟨cl15, Ar15, -, S15, M15, H15, -⟩ := vo15
    have hin15 := inb_of S15 (own_in p3 ((((p1 &&& (31 : Int32)).toInt64) + (p2 &&& (1023 : Int64))).toInt32) (own_len p1 p2).2.1 hc10)
    have hat15 := H15.at hin15 (rfl : ([] : List Value).getD _ (.int 0) = .int 0)
    refine go1 (X14.baloadBytes hx (j := ((p3 &&& (2147483647 : Int32)) % ((((p1 &&& (31 : Int32)).toInt64) + (p2 &&& (1023 : Int64))).toInt32))) (v := (.int (0 : Int32))) (by rw [e14]; exact Ar15.1) (State.isArrayOf_alike hZ.alike Ar15.2.1) Ar15.2.2 hin15 hat15 (g := (mkF m 116 #[.val (.int p1), .val (.long p2), .second, .val (.int p3), .val (.int (p1 &&& (31 : Int32))), .val (.long (p2 &&& (1023 : Int64))), .second, .val (.ref b2), .val (.ref b5), .val (.long (((p1 &&& (31 : Int32)).toInt64) + (p2 &&& (1023 : Int64)))), .second, .val (.int ((p3 &&& (2147483647 : Int32)) % ((((p1 &&& (31 : Int32)).toInt64) + (p2 &&& (1023 : Int64))).toInt32)))] [(.int ((p3 &&& (2147483647 : Int32)) % ((((p1 &&& (31 : Int32)).toInt64) + (p2 &&& (1023 : Int64))).toInt32))), (.ref b5)])) rfl rfl (hb hby at_116)) ?_
    show Go p.tables e below T14 (mkF m 117 #[.val (.int p1), .val (.long p2), .second, .val (.int p3), .val (.int (p1 &&& (31 : Int32))), .val (.long (p2 &&& (1023 : Int64))), .second, .val (.ref b2), .val (.ref b5), .val (.long (((p1 &&& (31 : Int32)).toInt64) + (p2 &&& (1023 : Int64)))), .second, .val (.int ((p3 &&& (2147483647 : Int32)) % ((((p1 &&& (31 : Int32)).toInt64) + (p2 &&& (1023 : Int64))).toInt32)))] [(.int (0 : Int32))]) _
    refine go1 (fun _ => XS.ifNo X14.here hx rfl (hb hby at_117) rfl ((if0 _ _).trans (teq (by decide : (0 : Int32) = (0 : Int32))).2)) ?_
    show Go p.tables e below T14 (mkF m 120 #[.val (.int p1), .val (.long p2), .second, .val (.int p3), .val (.int (p1 &&& (31 : Int32))), .val (.long (p2 &&& (1023 : Int64))), .second, .val (.ref b2), .val (.ref b5), .val (.long (((p1 &&& (31 : Int32)).toInt64) + (p2 &&& (1023 : Int64)))), .second, .val (.int ((p3 &&& (2147483647 : Int32)) % ((((p1 &&& (31 : Int32)).toInt64) + (p2 &&& (1023 : Int64))).toInt32)))] []) _
    refine go1 (fun _ => XS.iconst X14.here hx rfl (hb hby at_120)) ?_
    show Go p.tables e below T14 (mkF m 121 #[.val (.int p1), .val (.long p2), .second, .val (.int p3), .val (.int (p1 &&& (31 : Int32))), .val (.long (p2 &&& (1023 : Int64))), .second, .val (.ref b2), .val (.ref b5), .val (.long (((p1 &&& (31 : Int32)).toInt64) + (p2 &&& (1023 : Int64)))), .second, .val (.int ((p3 &&& (2147483647 : Int32)) % ((((p1 &&& (31 : Int32)).toInt64) + (p2 &&& (1023 : Int64))).toInt32)))] [(.int (1 : Int32))]) _
    refine go1 (fun _ => XS.goto X14.here hx rfl (pc0 := 121) (pc' := 125) rfl (hb hby at_121) (by decide) (by decide)) ?_
    show Go p.tables e below T14 (mkF m 125 #[.val (.int p1), .val (.long p2), .second, .val (.int p3), .val (.int (p1 &&& (31 : Int32))), .val (.long (p2 &&& (1023 : Int64))), .second, .val (.ref b2), .val (.ref b5), .val (.long (((p1 &&& (31 : Int32)).toInt64) + (p2 &&& (1023 : Int64)))), .second, .val (.int ((p3 &&& (2147483647 : Int32)) % ((((p1 &&& (31 : Int32)).toInt64) + (p2 &&& (1023 : Int64))).toInt32)))] [(.int (1 : Int32))]) _
    refine goR X14 (BodyLoose.notSynchronized Bd) (v := (some (.int (1 : Int32)))) (fun h => by rw [Bd.returns] at h; cases h) (Q0 Z p1 p2 p3 h0 n0) (fun fs hr => retN X14 hx (t := .boolean) Bd.returns (by simp) (hb hby at_125) hr) (by decide) (by decide) ?_
    show Q0 Z p1 p2 p3 h0 n0 _ T14.heap _
    rw [e14]
    exact ⟨rfl, N14⟩
set_option maxRecDepth 65536 in
set_option maxHeartbeats 40000000 in
theorem comes_1 {Post : Tables → Env → Array Value → State → Outcome → State → Prop} (hpost : ∀ tb e args s v u, (limb_1_1.after args s (.returned v) u = true ∧ limb_1_2.after args s (.returned v) u = true ∧ True) → FrameEnd s (.returned v) u (Jvm.fieldLocs frame_1_writes args s ++ Jvm.arrayLocs frame_1_arrays args s ++ Jvm.staticLocs frame_1_statics s) 16 4288 → Post tb e args s (.returned v) u) :
    ArmFor flags0 classFile x code maxLocals ret World_1 tables_1 room_1 Calls_1 rest_1 Pre_1 Post := by
  intro l hfl _ _ p e ha hc hk s m args below hf hA hF happ hP
  obtain ⟨hcalls, hrest, hpre⟩ := hP
  obtain ⟨-, -, -, hnamed, -, -, -, hat⟩ := (Spec.applies_iff hf).mp happ
  obtain ⟨hg, hn⟩ := and_e (Cond.before_iff.mp (show (Jvm.Cond.and given_1 narrow_1).before args s = true from hpre))
  obtain ⟨gc, q0⟩ := and_e hg
  obtain ⟨ga0, q1⟩ := and_e q0
  obtain ⟨ga1, q2⟩ := and_e q1
  have ga2 := q2
  obtain ⟨w0, w1, w2, rfl⟩ : ∃ w0 w1 w2 : Value, args = #[w0, w1, w2] := by
    have hs : args.size = 3 := by simpa [Cond.value, given_1] using gc
    obtain ⟨L⟩ := args
    match L, hs with
    | [w0, w1, w2], _ => exact ⟨w0, w1, w2, rfl⟩
  have hw := fun d (hd : d ∈ tables_1) => atoms_spec (ws := Jvm.Cond.code x code maxLocals ret :: tables_1) hat d (List.mem_cons_of_mem _ hd)
  have hfit : Fit s := fun {y c} hc i hi => by
    obtain ⟨ha, rfl⟩ := Array.getElem?_eq_some_iff.mp hc
    have q := List.all_eq_true.mp ((Array.all_eq_true_iff_forall_mem.mp hF) _ (Array.getElem_mem ha)) i (List.mem_range.mpr hi)
    simpa [Array.getElem?_eq_getElem hi] using q
  obtain ⟨i0, ei0⟩ := is_v ga0
  obtain rfl : w0 = (.int i0) := Option.some.inj ei0
  obtain ⟨i1, ei1⟩ := isL_v ga1
  obtain rfl : w1 = (.long i1) := Option.some.inj ei1
  obtain ⟨i2, ei2⟩ := is_v ga2
  obtain rfl : w2 = (.int i2) := Option.some.inj ei2
  obtain ⟨n, o, h1, h2, h3, _, L, rfl, ⟨rfl, N⟩, hq⟩ := rm0 l s _ hw tables_1 i0 i1 i2 s.heap s.heap.size (Nat.le_refl _) (Old.start s)  p e ha hc hk s m _ below hf ((Spec.applies_iff_loose hf).mp happ).1 ⟨rfl, State.Warmed39.refl s, rfl⟩ trivial
  refine ⟨n, _, h1, h2, h3, hpost _ _ _ _ _ _ ⟨Cond.after_iff.mpr rfl, Cond.after_iff.mpr (eq_i res_at (Term.int_eval (1)) rfl), trivial⟩ ⟨hq.1, hq.2.1, (hq.2.2.sift fun y hy => Or.inr (N y hy)).mono (by decide) (by decide)⟩⟩
theorem main_1_1 : Claimed_1_1 := comes_1 fun _ _ _ _ _ _ h hF => ⟨h.1, hF⟩
theorem main_1_2 : Claimed_1_2 := comes_1 fun _ _ _ _ _ _ h hF => ⟨h.2.1, hF⟩
end Jvm.Pilot.@@N@@
namespace Jvm.Pilot.@@N@@
open Jvm Jvm.ClassFile Sem Op Lib Jvm.Free Jvm.Stand Jvm.Pilot.@@N@@.Jvm.D
/-! MADE BY PROGRAM (witnessworld.py) out of the Statement's table words and the real class files: 9 classes; the members and pool entries that the words name. The judged class is class 1, her method 1. -/
namespace start1
open Jvm.ClassFile
def u (s : String) : CpInfo := .utf8 (stringToUtf16 s)
/-- a pool by its gaps: so many unusable entries, then the entry; so many at the end -/
def gap : Nat → List CpInfo → List CpInfo
  | 0, r => r
  | n + 1, r => .unusable :: gap n r
def poolList (es : List (Nat × CpInfo)) (last : Nat) : List CpInfo := es.foldr (fun e r => gap e.1 (e.2 :: r)) (gap last [])
def pool (es : List (Nat × CpInfo)) (last : Nat) : Array CpInfo := ⟨poolList es last⟩
def fileOf (pool : Array CpInfo) (this : Nat) (attrs : Array Attribute := #[]) (ms : Array MethodInfo := #[]) (fl : Nat := 33) (sup : Nat := 0) (ifs : Array Nat := #[]) (fds : Array FieldInfo := #[]) : ClassFile where
  minorVersion := 0
  majorVersion := 65
  constantPool := pool
  accessFlags := fl
  thisClass := this
  superClass := sup
  interfaces := ifs
  fields := fds
  methods := ms
  attributes := attrs
def plain (name : String) (sup : Option ClassId) : Class where
  name := name
  kind := .ordinary
  loader := none
  accessFlags := 33
  super := sup
  interfaces := #[]
  cf := none
  fields := #[]
  methods := #[]
  instanceTypes := #[]
  staticTypes := #[]
  resolved := #[]
  callSites := []
  init := .initialized
  statics := none
  mirror := none

def pool0 : Array CpInfo := pool [(5, u "<init>"), (0, u "()V"), (1, .class_ 10), (1, u "java/lang/Object")] 113

def k0m0 : Method := { name := "<init>", desc := "()V", sig := { parameters := [], returnType := none }, accessFlags := 1, code := none }
/-- java/lang/Object -/
def k0 : Class := { plain "java/lang/Object" none with
  accessFlags := 33
  interfaces := #[]
  cf := some (fileOf pool0 8 #[] #[{ accessFlags := 1, nameIndex := 5, descriptorIndex := 6, attributes := #[] }] 33 0 #[] #[])
  fields := #[]
  methods := #[k0m0]
  instanceTypes := #[]
  staticTypes := #[]
  resolved := Array.replicate 124 none
  statics := none }

def pool1 : Array CpInfo := pool [(2, .class_ 4), (1, u "java/lang/Object"), (0, u "<init>"), (0, u "()V"), (0, .long 1023), (1, .methodref 10 11), (0, .class_ 12), (0, .nameAndType 13 14), (0, u "com/example/gridwire/gridwire/arrays/TypedArray"), (0, u "newItem"), (0, u "(IJ)[B"), (0, .integer 2147483647), (0, .class_ 17), (0, u "com/example/gridwire/gridwire/arrays/TypedArrayNewItemPinLaw"), (2, u "law"), (0, u "(IJI)Z")] 5

def k1m0 : Method := { name := "<init>", desc := "()V", sig := { parameters := [], returnType := none }, accessFlags := 2, code := none }
def k1c1 : Code := { maxStack := 4, maxLocals := 12, code := code, exceptionTable := #[], attributes := #[] }
def k1m1 : Method := { name := "law", desc := "(IJI)Z", sig := { parameters := [.int, .long, .int], returnType := some .boolean }, accessFlags := 9, code := some k1c1 }
/-- com/example/gridwire/gridwire/arrays/TypedArrayNewItemPinLaw -/
def k1 : Class := { plain "com/example/gridwire/gridwire/arrays/TypedArrayNewItemPinLaw" (some 0) with
  accessFlags := 49
  interfaces := #[]
  cf := some (fileOf pool1 16 #[] #[{ accessFlags := 2, nameIndex := 5, descriptorIndex := 6, attributes := #[] }, { accessFlags := 9, nameIndex := 20, descriptorIndex := 21, attributes := #[] }] 49 2 #[] #[])
  fields := #[]
  methods := #[k1m0, k1m1]
  instanceTypes := #[]
  staticTypes := #[]
  resolved := Array.replicate 27 none
  statics := none }

def pool2 : Array CpInfo := pool [(2, .class_ 4), (1, u "java/lang/Object"), (3, .class_ 10), (1, u "com/example/gridwire/gridwire/arrays/TypedArray"), (0, u "kind"), (0, u "Lcom/example/gridwire/gridwire/arrays/TypedArrayKind;"), (6, u "elements"), (0, u "Ljava/nio/ByteBuffer;"), (2, u "DEFAULT_ORDER"), (0, u "Ljava/nio/ByteOrder;"), (9, .class_ 36), (1, u "com/example/gridwire/gridwire/arrays/TypedArray$Elements"), (39, u "newItem"), (0, u "(IJ)[B"), (303, .class_ 383), (1, u "com/example/gridwire/gridwire/arrays/TypedArray$PrimitiveArray"), (178, .long 2147483647)] 195

def k2c0 : Code := { maxStack := 4, maxLocals := 5, code := prog_12_method_64_code, exceptionTable := #[], attributes := #[] }
def k2m0 : Method := { name := "newItem", desc := "(IJ)[B", sig := { parameters := [.int, .long], returnType := some (.array .byte) }, accessFlags := 8, code := some k2c0 }
/-- com/example/gridwire/gridwire/arrays/TypedArray -/
def k2 : Class := { plain "com/example/gridwire/gridwire/arrays/TypedArray" (some 0) with
  accessFlags := 49
  interfaces := #[]
  cf := some (fileOf pool2 8 #[.nestMembers #[381, 34]] #[{ accessFlags := 8, nameIndex := 76, descriptorIndex := 77, attributes := #[] }] 49 2 #[] #[{ accessFlags := 26, nameIndex := 23, descriptorIndex := 24, attributes := #[] }, { accessFlags := 18, nameIndex := 11, descriptorIndex := 12, attributes := #[] }, { accessFlags := 18, nameIndex := 19, descriptorIndex := 20, attributes := #[] }])
  fields := #[{ name := "DEFAULT_ORDER", type := (.object "java/nio/ByteOrder"), accessFlags := 26, slot := 0, constantValue := 0 }, { name := "kind", type := (.object "com/example/gridwire/gridwire/arrays/TypedArrayKind"), accessFlags := 18, slot := 0, constantValue := 0 }, { name := "elements", type := (.object "java/nio/ByteBuffer"), accessFlags := 18, slot := 1, constantValue := 0 }]
  methods := #[k2m0]
  instanceTypes := #[(.object "com/example/gridwire/gridwire/arrays/TypedArrayKind"), (.object "java/nio/ByteBuffer")]
  staticTypes := #[(.object "java/nio/ByteOrder")]
  resolved := Array.replicate 758 none
  statics := none }

def pool3 : Array CpInfo := pool [(1, u "java/lang/Cloneable"), (0, .class_ 1), (0, u "java/lang/Object"), (0, .class_ 3)] 3

/-- java/lang/Cloneable -/
def k3 : Class := { plain "java/lang/Cloneable" (some 0) with
  accessFlags := 1537
  interfaces := #[]
  cf := some (fileOf pool3 2 #[] #[] 1537 4 #[] #[])
  fields := #[]
  methods := #[]
  instanceTypes := #[]
  staticTypes := #[]
  resolved := Array.replicate 8 none
  statics := none }

def pool4 : Array CpInfo := pool [(1, u "java/io/Serializable"), (0, .class_ 1), (0, u "java/lang/Object"), (0, .class_ 3)] 3

/-- java/io/Serializable -/
def k4 : Class := { plain "java/io/Serializable" (some 0) with
  accessFlags := 1537
  interfaces := #[]
  cf := some (fileOf pool4 2 #[] #[] 1537 4 #[] #[])
  fields := #[]
  methods := #[]
  instanceTypes := #[]
  staticTypes := #[]
  resolved := Array.replicate 8 none
  statics := none }

/-- the primitive byte -/
def k5 : Class := { plain "byte" none with kind := .primitive 'B', accessFlags := 0x411 }
/-- [B -/
def k6 : Class := { plain "[B" (some 0) with kind := .array 5 .byte, interfaces := #[3, 4], accessFlags := 1041 }

/-- the primitive int -/
def k7 : Class := { plain "int" none with kind := .primitive 'I', accessFlags := 0x411 }
/-- [I -/
def k8 : Class := { plain "[I" (some 0) with kind := .array 7 .int, interfaces := #[3, 4], accessFlags := 1041 }

def heap : Heap := #[]
def classes : Array Class := #[k0, k1, k2, k3, k4, k5, k6, k7, k8]
def interned : List (Array UInt16 × Addr) := []
def slotsUsed : Nat := 0
def theMethod : MethodId := ⟨1, 1⟩
def args0 : Array Value := #[.int 5, .long 3, .int 1]
def aboutOver (below : List Frame) : State where
  vm := { classes := classes, interned := interned.toArray }
  heap := heap
  slotsUsed := slotsUsed
  threads := #[{ frames := .invoking theMethod args0 :: below }]
def below0 : List Frame := [.native { method := ⟨0, 0⟩, args := #[] }]
def about1 : State := aboutOver below0
def p0 : Program := .bare "" "" ""
def e0 : Env := launch0.env 0 0 0
theorem w_frames : about1.frames = Frame.invoking theMethod args0 :: below0 := rfl
set_option maxRecDepth 65536 in
theorem w_args : argsFit about1.vm theMethod args0 = true := by decide +kernel
set_option maxRecDepth 65536 in
theorem w_heap : heapFits about1 = true := by decide +kernel
set_option maxRecDepth 65536 in
theorem w_runnable : about1.curStatus? = some .runnable := by decide +kernel
set_option maxRecDepth 65536 in
theorem w_alone : about1.alone = true := by decide +kernel
set_option maxRecDepth 65536 in
theorem w_named : about1.methodNamed? x = some theMethod := by decide +kernel
set_option maxRecDepth 65536 in
theorem w_hears : about1.hears theMethod below0 = true := by decide +kernel
set_option maxRecDepth 65536 in
theorem w_ripe : about1.ripe theMethod args0 below0 = true := by decide +kernel
theorem w_running : about1.status = .running := rfl
set_option maxRecDepth 65536 in
theorem w_room : about1.hasRoom e0.platform room_1 = true :=
  launch0.hasRoom_least _ room_1 (by decide +kernel) (by decide +kernel) (by decide +kernel) (by decide +kernel) (by decide +kernel) (by decide +kernel)
theorem allAtoms_all (ts : List Jvm.Cond) (a : Array Jvm.Value) (st : Jvm.State) : (allAtoms ts).before a st = ts.all (fun c => c.before a st) := by
  induction ts with
  | nil => rfl
  | cons c t ih =>
    show (Jvm.Cond.and c (allAtoms t)).before a st = _
    rw [Jvm.Cond.before_and, ih, List.all_cons]
def words1 : List Jvm.Cond := Jvm.Cond.code x code maxLocals ret :: tables_1
/-- a 'code' word, met by the world's own term for the bytes: nothing is compared byte by byte -/
theorem code_word {y : MethodName} {bytes : ByteArray} {mx : Nat} {rt : Option FieldType} {a : Array Value} {s : State} {m : MethodId} {meth : Method} {c : Code} (h1 : s.methodNamed? y = some m) (h2 : s.vm.method? m = some meth) (h3 : meth.code = some c) (h4 : c.code = bytes)
    (h5 : (c.maxLocals == mx && c.exceptionTable.isEmpty && decide (c.maxStack ≤ mostOperands) && decide (meth.sig.returnType = rt) && !meth.locks && decide (parseMethodDescriptor y.desc = some meth.sig)) = true) : (Jvm.Cond.code y bytes mx rt).before a s = true := by
  simp only [Bool.and_eq_true, beq_iff_eq, Bool.not_eq_true', decide_eq_true_eq] at h5
  obtain ⟨⟨⟨⟨⟨g1, g2⟩, g3⟩, g4⟩, g5⟩, g6⟩ := h5
  simp [Cond.before, Cond.holds, Cond.value, h1, h2, h3, h4, g1, g2, g3, g4, g5, g6]
def isCode : Jvm.Cond → Bool
  | .code _ _ _ _ => true
  | _ => false
theorem all_split {L : List Jvm.Cond} {P : Jvm.Cond → Bool} (h1 : L.all (fun c => isCode c || P c) = true) (h2 : ∀ c ∈ L.filter isCode, P c = true) : L.all P = true := by
  refine List.all_eq_true.mpr fun c hc => ?_
  have h := List.all_eq_true.mp h1 c hc
  rcases Bool.eq_false_or_eq_true (isCode c) with hi | hi
  · exact h2 c (List.mem_filter.mpr ⟨hc, hi⟩)
  · simpa [hi] using h
set_option maxRecDepth 65536 in
theorem w_c0 : (Jvm.Cond.code x code maxLocals ret).before args0 about1 = true := code_word (m := ⟨1, 1⟩) (meth := k1m1) (c := k1c1) (by decide +kernel) rfl rfl rfl (by decide +kernel)
set_option maxRecDepth 65536 in
theorem w_c1 : (Jvm.Cond.code ({ cls := "com/example/gridwire/gridwire/arrays/TypedArray", name := "newItem", desc := "(IJ)[B" } : Jvm.MethodName) prog_12_method_64_code (5 : Nat) (Option.some (Jvm.ClassFile.FieldType.array Jvm.ClassFile.FieldType.byte))).before args0 about1 = true := code_word (m := ⟨2, 0⟩) (meth := k2m0) (c := k2c0) (by decide +kernel) rfl rfl rfl (by decide +kernel)
def codes1 : List Jvm.Cond := [Jvm.Cond.code x code maxLocals ret, Jvm.Cond.code ({ cls := "com/example/gridwire/gridwire/arrays/TypedArray", name := "newItem", desc := "(IJ)[B" } : Jvm.MethodName) prog_12_method_64_code (5 : Nat) (Option.some (Jvm.ClassFile.FieldType.array Jvm.ClassFile.FieldType.byte))]
set_option maxRecDepth 65536 in
theorem codes_eq : words1.filter isCode = codes1 := rfl
theorem w_codes : ∀ c ∈ words1.filter isCode, c.before args0 about1 = true := by
  rw [codes_eq]
  intro c hc
  simp only [codes1, List.mem_cons, List.not_mem_nil, or_false] at hc
  rcases hc with rfl | rfl
  · exact w_c0
  · exact w_c1
set_option maxRecDepth 65536 in
theorem w_t1 : words1.all (fun c => isCode c || c.before args0 about1) = true := by decide +kernel
theorem w_tables : (allAtoms (Jvm.Cond.code x code maxLocals ret :: tables_1)).before args0 about1 = true := by
  rw [allAtoms_all]
  show words1.all (fun c => c.before args0 about1) = true
  refine all_split ?_ w_codes
  rw [w_t1]
set_option maxRecDepth 65536 in
theorem w_case : (Jvm.Cond.and given_1 narrow_1).before args0 about1 = true := by decide +kernel
theorem w_applies : (headSpec (Jvm.Cond.code x code maxLocals ret :: tables_1) room_1).applies x e0.platform about1 = true :=
  (Spec.applies_iff w_frames).mpr ⟨w_running, w_runnable, w_alone, w_named, w_hears, w_ripe, w_room, w_tables⟩
theorem atStart : AtStart classFile x code maxLocals ret World_1 tables_1 room_1 Calls_1 rest_1 Pre_1 launch0 p0 e0 about1 theMethod args0 below0 :=
  ⟨lists_1, trivial, launch0.admits_env _ _ _, launch0.least_env, fairChoices_fair.cas, fairChoices_fair.clock, w_frames, w_args, w_heap, w_applies, trivial, trivial, w_case⟩
end start1
theorem witness_1 : WitnessClaimed_1 := ⟨start1.p0, start1.e0, start1.about1, start1.theMethod, start1.args0, start1.below0, start1.atStart⟩
end Jvm.Pilot.@@N@@
