import JvmDerived
import JvmDerived.Pilot.@@N@@Statement
import JvmDerived.Pilot.@@N@@Code
set_option linter.unusedVariables false
set_option linter.unusedSimpArgs false
namespace Jvm.RoadKit
open Sem ClassFile Op Lib Jvm.Stand Jvm.Free Jvm.LawKit
section New
variable {p : Program} {l : Launch} {e : Env} {R : Room} {s : State} {m : MethodId} {args : Array Value} {below : List Frame} {meth : Method} {c : Code} {T : State} {locs : List Loc} {cells slots : Nat}
theorem retI (X : Stand p l e R s m args below meth c T locs cells slots) (hx : p.tables.exec = Jvm.exec) {pc : Nat} {Ls : Array Slot} {z : Int32} {rest : List Value} (hret : meth.sig.returnType = some .int) (hd : decode c.code pc = .ok (.ireturn, 1)) {fs : List Frame}
    (hl : ∀ (f : JFrame) (acts : List Action), f.method = m → f.locked = none → f.entered = [] → (doReturn e (T.setTop f) acts (some (.int z))).1 = T.setFrames fs) : Steps p.tables e below (T.setTop (mkF m pc Ls (.int z :: rest))) (T.setFrames fs) := by
  have hm' : T.vm.method? m = some meth := X.method'
  have hn : narrow .int (.int z) = .int z := rfl
  show Steps p.tables e below (T.setTop { method := m, pc := pc, locals := Ls, stack := _ :: rest, locked := none }) _
  jvm_step X.here [X.here.top, hx, hd, hm', hret, hn]
  first | (intro acts; rw [hl _ acts rfl rfl rfl]) | rw [hl _ _ rfl rfl rfl]
  exact Steps.refl _
/-- the run goes on from here to an end of which P holds -/
def Go (tb : Tables) (e : Env) (below : List Frame) (T : State) (g : JFrame) (P : State → Prop) : Prop := ∃ U, Steps tb e below (T.setTop g) U ∧ P U
theorem go1 {tb : Tables} {T' : State} {g g' : JFrame} {P : State → Prop} (k : ∀ t, Steps tb e below (T'.setTop g') t → Steps tb e below (T.setTop g) t) (h : Go tb e below T' g' P) : Go tb e below T g P := by
  obtain ⟨U, h1, h2⟩ := h; exact ⟨U, k U h1, h2⟩
theorem goT {tb : Tables} {T' : State} {g g' : JFrame} {P : State → Prop} (k : Steps tb e below (T.setTop g) (T'.setTop g')) (h : Go tb e below T' g' P) : Go tb e below T g P := by
  obtain ⟨U, h1, h2⟩ := h; exact ⟨U, k.trans h1, h2⟩
theorem stp {tb : Tables} {T' t : State} {g g' : JFrame} (k : ∀ t, Steps tb e below (T'.setTop g') t → Steps tb e below (T.setTop g) t) (h : Steps tb e below (T'.setTop g') t) : Steps tb e below (T.setTop g) t := k t h
theorem goB {tb : Tables} {ml : Nat} {g : JFrame} {Qp : Outcome → State → Prop} (q : entryFrame m args ml = g) (h : Go tb e below T g (fun U => ∃ o, U.status = .running ∧ Ended U below o ∧ Qp o U)) :
    ∃ s₂ o, Steps tb e below (T.setTop (entryFrame m args ml)) s₂ ∧ s₂.status = .running ∧ Ended s₂ below o ∧ Qp o s₂ := by
  obtain ⟨U, h1, o, h2, h3, h4⟩ := h; exact ⟨U, o, q ▸ h1, h2, h3, h4⟩
theorem goR (X : Stand p l e R s m args below meth c T locs cells slots) (hlocks : meth.locks = false) {v : Option Value} (hv : meth.sig.returnType = none → v = none) {g : JFrame} {kc ks : Nat} (Q : Option Value → Heap → List Loc → Prop)
    (k : ∀ fs, (∀ (f : JFrame) (acts : List Action), f.method = m → f.locked = none → f.entered = [] → (doReturn e (T.setTop f) acts v).1 = T.setFrames fs) → Steps p.tables e below (T.setTop g) (T.setFrames fs)) (hc : cells ≤ kc) (hs : slots ≤ ks) (hq : Q v T.heap locs) :
    Go p.tables e below T g (fun U => ∃ o, U.status = .running ∧ Ended U below o ∧ ∃ v L, o = .returned v ∧ Q v U.heap L ∧ FrameEnd s o U L kc ks) := by
  obtain ⟨fs, hr, hrun, hended, hW, hsame⟩ := X.leave hv hlocks
  exact ⟨_, k fs hr, _, hrun, hended, _, _, rfl, hq, ⟨_, rfl⟩, hW, hsame.mono hc hs⟩
theorem fitsG {C : String} {u : Value} (h : u.isRef = true) : fits (.object C) u = true := by rcases ref_cases h with rfl | ⟨a, rfl⟩ <;> rfl
theorem selPriv {Z : State} {a0 : Array Value} {y : MethodName} {n : Nat} (hZ : Z.Warmed39 s.vm) (wi : (Cond.instantiable y.cls n).before a0 Z = true) (wp : (Cond.privateMethod y).before a0 Z = true) (wm : (Cond.instanceMethod y).before a0 Z = true) (hy : y.cls ≠ "java/lang/invoke/MethodHandle" ∧ y.cls ≠ "java/lang/invoke/VarHandle") : (Cond.selects y.cls y y).before args s = true := by
  obtain ⟨c, k, h1, h2, -, h4, -⟩ := Cond.instantiable_spec (show (Cond.instantiable y.cls n).before args s = true from mv hZ wi)
  have h5 : k.isInterface = false := by
    cases hq : k.isInterface
    · rfl
    · rw [hq] at h4; simp at h4
  exact selects_self_of_private h1 h2 h5 (Cond.privateMethod_at (mvP hZ wp (args := #[]))) (mv hZ wm) hy
theorem nsRoot {Z : State} {a0 : Array Value} {O K : String} {n : Nat} (w : (Cond.noSuperclass O).before a0 Z = true) (wk : (Cond.instantiable K n).before a0 Z = true) (hn : O ≠ K) : NS Z O K := by
  obtain ⟨c, k, h1, h2, h3, -⟩ := Cond.noSuperclass_spec w
  obtain ⟨t, kt, g1, -⟩ := Cond.instantiable_spec wk
  have ne := ids_ne h1 g1 hn
  exact ⟨c, t, h1, g1, fun fuel => by cases fuel <;> simp [Vm.isSubclassAux, ne, h2, h3]⟩
theorem nsNo {Z : State} {a0 : Array Value} {C S K : String} {n : Nat} (w : (Cond.superclass C S).before a0 Z = true) (wk : (Cond.instantiable K n).before a0 Z = true) (N : NS Z C K) (hn : C ≠ K) : ∃ c t, Z.vm.findClass C = some c ∧ Z.vm.findClass K = some t ∧ Z.vm.assignable c t = false := by
  obtain ⟨c, t, h0, g0, n3⟩ := N
  obtain ⟨pp, k, kp, -, h2, -, -, h5, -, -⟩ := Cond.superclass_spec h0 w
  obtain ⟨t', kt, g1, g2, g3, g4, -⟩ := Cond.instantiable_spec wk
  cases g0.symm.trans g1
  have ne := ids_ne h0 g0 hn
  have g5 : kt.isInterface = false := by
    cases hq : kt.isInterface
    · rfl
    · rw [hq] at g4; simp at g4
  refine ⟨c, t, h0, g0, ?_⟩
  show Z.vm.assignableAux (255 + 1) c t = false
  simp [Vm.assignableAux, ne, h2, g2, h5, g3, g5, Vm.isSubclass, n3]
theorem lenS {Z : State} {t : Term} {a : Addr} {cl : Cell} {n : Int32} {ty : FieldType} (ev : t.eval args Z none [] Z = some (.ref a)) (A : Arr Z Z.heap a cl ty) (h : (Term.length t).eval args Z none [] Z = some (.int n)) :
    cl.slots.size < 2 ^ 31 ∧ cl.slots.size.toInt32 = n ∧ cl.slots.size = n.toNatClampNeg ∧ ¬ n < 0 := by
  have ha := A.fin (Vm.Alike.refl _)
  by_cases q : cl.slots.size < 2 ^ 31
  · have e := len_f ev ha q
    rw [h] at e
    have e2 : n = cl.slots.size.toInt32 := by injection e with e; injection e
    have e3 := len_toInt q
    refine ⟨q, e2.symm, ?_, ?_⟩
    · rw [e2]; simp only [Int32.toNatClampNeg, e3]; rfl
    · rw [e2, Int32.lt_iff_toInt_lt, e3]; show ¬ (cl.slots.size : Int) < 0; omega
  · exfalso
    have q' : ¬ cl.slots.size < 2147483648 := q
    simp [Term.eval, ev, ha, q'] at h
end New
end Jvm.RoadKit
namespace Jvm.Pilot.@@N@@
open Jvm Jvm.ClassFile Sem Op Lib Jvm.Free Jvm.Stand Jvm.LawKit Jvm.RoadKit Bundle Jvm.Pilot.@@N@@.Jvm.D
theorem d1_0 : decode prog_61_method_2_code 0 = .ok (.lload_n 2, 1) := by decide +kernel
theorem d1_1 : decode prog_61_method_2_code 1 = .ok (.lconst 0, 1) := by decide +kernel
theorem d1_2 : decode prog_61_method_2_code 2 = .ok (.lcmp, 1) := by decide +kernel
theorem d1_3 : decode prog_61_method_2_code 3 = .ok (.ifCond .gt 5, 3) := by decide +kernel
theorem d1_6 : decode prog_61_method_2_code 6 = .ok (.lconst 0, 1) := by decide +kernel
theorem d1_7 : decode prog_61_method_2_code 7 = .ok (.lreturn, 1) := by decide +kernel
theorem d1_8 : decode prog_61_method_2_code 8 = .ok (.lload_n 0, 1) := by decide +kernel
theorem d1_9 : decode prog_61_method_2_code 9 = .ok (.lload_n 2, 1) := by decide +kernel
theorem d1_10 : decode prog_61_method_2_code 10 = .ok (.ladd, 1) := by decide +kernel
theorem d1_11 : decode prog_61_method_2_code 11 = .ok (.lstore 4, 2) := by decide +kernel
theorem d1_13 : decode prog_61_method_2_code 13 = .ok (.lload 4, 2) := by decide +kernel
theorem d1_15 : decode prog_61_method_2_code 15 = .ok (.lload_n 0, 1) := by decide +kernel
theorem d1_16 : decode prog_61_method_2_code 16 = .ok (.lcmp, 1) := by decide +kernel
theorem d1_17 : decode prog_61_method_2_code 17 = .ok (.ifCond .ge 9, 3) := by decide +kernel
theorem d1_20 : decode prog_61_method_2_code 20 = .ok (.ldc2_w 44, 3) := by decide +kernel
theorem d1_23 : decode prog_61_method_2_code 23 = .ok (.goto 5, 3) := by decide +kernel
theorem d1_26 : decode prog_61_method_2_code 26 = .ok (.lload 4, 2) := by decide +kernel
theorem d1_28 : decode prog_61_method_2_code 28 = .ok (.lreturn, 1) := by decide +kernel
theorem pn_1 : plainName "com/example/enrout/enrout/wire/Frame$Content" = true := by first | (simp [plainName, overriddenIn]; done) | decide +kernel
theorem ef_1 (m : MethodId) (p1 : Int64) (p2 : Int64) : entryFrame m #[(.long p1), (.long p2)] 6 = mkF m 0 #[.val (.long p1), .second, .val (.long p2), .second, .unset, .unset] [] := by first | (simp [entryFrame, mkF, argsToLocals, Value.category]; done) | rfl
def own_1 (p1 : Int64) (p2 : Int64) : Int64 :=
  if (0 : Int64) < p2 then
    if (p1 + p2) < p1 then
      (9223372036854775807 : Int64)
    else
      (p1 + p2)
  else
    (0 : Int64)
def Q1 (Z : State) (p1 : Int64) (p2 : Int64) (h0 : Heap) (n0 : Nat) (v : Option Value) (h : Heap) (L : List Loc) : Prop := v = some (.long (own_1 p1 p2)) ∧ Fr n0 L ∧ h = h0
set_option maxRecDepth 65536 in
set_option maxHeartbeats 40000000 in
theorem rm1 (l : Launch) (Z : State) (a0 : Array Value) (hw : ∀ d ∈ tables_1, d.before a0 Z = true) (ws : List Jvm.Cond) (p1 : Int64) (p2 : Int64) (h0 : Heap) (n0 : Nat) (Z0 : n0 ≤ h0.size) :
    MetFree l (⟨"com/example/enrout/enrout/wire/Frame$Content", "expiration", "(JJ)J"⟩ : MethodName) (head1 (Jvm.Cond.code (⟨"com/example/enrout/enrout/wire/Frame$Content", "expiration", "(JJ)J"⟩ : MethodName) prog_61_method_2_code 6 (some .long) :: ws) ({ frames := 0, cells := 0, slots := 0, locals := 0 } : Room)) (fun a U => a = #[(.long p1), (.long p2)] ∧ Z.Warmed39 U.vm ∧ U.heap = h0) (fun _ _ _ _ _ => True) (fun _ U o U' => ∃ v L, o = .returned v ∧ Q1 Z p1 p2 h0 n0 v U'.heap L ∧ FrameEnd U o U' L ({ frames := 0, cells := 0, slots := 0, locals := 0 } : Room).cells ({ frames := 0, cells := 0, slots := 0, locals := 0 } : Room).slots) := by
  refine MetFree.of_bodySF (plainFor_of_name pn_1) hisR ?_
  intro p e s m args below meth c s₁ Bd hml0 hP hK
  obtain ⟨rfl, hZ, hh⟩ := hP
  have hx := Bd.exec
  have hby := Bd.bytes
  have hml : c.maxLocals = 6 := hml0
  have hown : s.vm.findClass "com/example/enrout/enrout/wire/Frame$Content" = some m.cls := findClass_of_methodNamed Bd.named
  have hnm := (name_of_methodNamed Bd.named Bd.method).1
  have X0 : Stand p l e ({ frames := 0, cells := 0, slots := 0, locals := 0 } : Room) s m #[(.long p1), (.long p2)] below meth c s₁ [] 0 0 := Stand.of_body Bd
  have e0 : s₁.heap = h0 := by rw [← hh, Bd.state]; rfl
  have N0 := Fr.nil n0
  refine goB (ef_1 m p1 p2) ?_
  show Go p.tables e below s₁ (mkF m 0 #[.val (.long p1), .second, .val (.long p2), .second, .unset, .unset] []) _
  refine go1 (fun _ => XS.lloadN X0.here hx rfl (hb hby d1_0) rfl) ?_
  show Go p.tables e below s₁ (mkF m 1 #[.val (.long p1), .second, .val (.long p2), .second, .unset, .unset] [(.long p2)]) _
  refine go1 (fun _ => XS.lconst X0.here hx rfl (hb hby d1_1)) ?_
  show Go p.tables e below s₁ (mkF m 2 #[.val (.long p1), .second, .val (.long p2), .second, .unset, .unset] [(.long (0 : Int64)), (.long p2)]) _
  refine go1 (fun _ => XS.lcmp X0.here hx rfl (hb hby d1_2) rfl) ?_
  show Go p.tables e below s₁ (mkF m 3 #[.val (.long p1), .second, .val (.long p2), .second, .unset, .unset] [(.int (lcmpW p2 (0 : Int64)))]) _
  by_cases hc1 : (0 : Int64) < p2
  · skip
    refine go1 (fun _ => XS.ifYes X0.here hx rfl (pc0 := 3) (pc' := 8) rfl (hb hby d1_3) rfl ((if0 _ _).trans (tlt ((lw_gt _ _).mpr hc1)).2.2.1) (by decide) (by decide)) ?_
    show Go p.tables e below s₁ (mkF m 8 #[.val (.long p1), .second, .val (.long p2), .second, .unset, .unset] []) _
    refine go1 (fun _ => XS.lloadN X0.here hx rfl (hb hby d1_8) rfl) ?_
    show Go p.tables e below s₁ (mkF m 9 #[.val (.long p1), .second, .val (.long p2), .second, .unset, .unset] [(.long p1)]) _
    refine go1 (fun _ => XS.lloadN X0.here hx rfl (hb hby d1_9) rfl) ?_
    show Go p.tables e below s₁ (mkF m 10 #[.val (.long p1), .second, .val (.long p2), .second, .unset, .unset] [(.long p2), (.long p1)]) _
    refine go1 (fun _ => XS.ladd X0.here hx rfl (hb hby d1_10) rfl) ?_
    show Go p.tables e below s₁ (mkF m 11 #[.val (.long p1), .second, .val (.long p2), .second, .unset, .unset] [(.long (p1 + p2))]) _
    refine go1 (fun _ => XS.lstore X0.here hx rfl (hb hby d1_11) rfl (l' := #[.val (.long p1), .second, .val (.long p2), .second, .val (.long (p1 + p2)), .second]) rfl) ?_
    show Go p.tables e below s₁ (mkF m 13 #[.val (.long p1), .second, .val (.long p2), .second, .val (.long (p1 + p2)), .second] []) _
    refine go1 (fun _ => XS.lload X0.here hx rfl (hb hby d1_13) rfl) ?_
    show Go p.tables e below s₁ (mkF m 15 #[.val (.long p1), .second, .val (.long p2), .second, .val (.long (p1 + p2)), .second] [(.long (p1 + p2))]) _
    refine go1 (fun _ => XS.lloadN X0.here hx rfl (hb hby d1_15) rfl) ?_
    show Go p.tables e below s₁ (mkF m 16 #[.val (.long p1), .second, .val (.long p2), .second, .val (.long (p1 + p2)), .second] [(.long p1), (.long (p1 + p2))]) _
    refine go1 (fun _ => XS.lcmp X0.here hx rfl (hb hby d1_16) rfl) ?_
    show Go p.tables e below s₁ (mkF m 17 #[.val (.long p1), .second, .val (.long p2), .second, .val (.long (p1 + p2)), .second] [(.int (lcmpW (p1 + p2) p1))]) _
    by_cases hc2 : (p1 + p2) < p1
    · skip
      refine go1 (fun _ => XS.ifNo X0.here hx rfl (hb hby d1_17) rfl ((if0 _ _).trans (tlt ((lw_lt _ _).mpr hc2)).2.1)) ?_
      show Go p.tables e below s₁ (mkF m 20 #[.val (.long p1), .second, .val (.long p2), .second, .val (.long (p1 + p2)), .second] []) _
      refine go1 (X0.ldc2Long hx hown (mvT hZ (hw _ (List.mem_of_getElem? (i := 9) rfl))) (g := (mkF m 20 #[.val (.long p1), .second, .val (.long p2), .second, .val (.long (p1 + p2)), .second] [])) rfl (hb hby d1_20)) ?_
      show Go p.tables e below s₁ (mkF m 23 #[.val (.long p1), .second, .val (.long p2), .second, .val (.long (p1 + p2)), .second] [(.long (9223372036854775807 : Int64))]) _
      refine go1 (fun _ => XS.goto X0.here hx rfl (pc0 := 23) (pc' := 28) rfl (hb hby d1_23) (by decide) (by decide)) ?_
      show Go p.tables e below s₁ (mkF m 28 #[.val (.long p1), .second, .val (.long p2), .second, .val (.long (p1 + p2)), .second] [(.long (9223372036854775807 : Int64))]) _
      refine goR X0 (BodyLoose.notSynchronized Bd) (v := (some (.long (9223372036854775807 : Int64)))) (fun h => by rw [Bd.returns] at h; cases h) (Q1 Z p1 p2 h0 n0) (fun fs hr => retOut X0 hx (t := .long) (w := (.long (9223372036854775807 : Int64))) Bd.returns rfl (Or.inr (Or.inl ⟨rfl, rfl, _, rfl⟩)) (hb hby d1_28) hr) (by decide) (by decide) ?_
      show Q1 Z p1 p2 h0 n0 _ s₁.heap _
      rw [e0]
      exact ⟨(by rw [own_1, if_pos hc1, if_pos hc2]), N0, rfl⟩
    · skip
      refine go1 (fun _ => XS.ifYes X0.here hx rfl (pc0 := 17) (pc' := 26) rfl (hb hby d1_17) rfl ((if0 _ _).trans (flt (mt (lw_lt _ _).mp hc2)).2.1) (by decide) (by decide)) ?_
      show Go p.tables e below s₁ (mkF m 26 #[.val (.long p1), .second, .val (.long p2), .second, .val (.long (p1 + p2)), .second] []) _
      refine go1 (fun _ => XS.lload X0.here hx rfl (hb hby d1_26) rfl) ?_
      show Go p.tables e below s₁ (mkF m 28 #[.val (.long p1), .second, .val (.long p2), .second, .val (.long (p1 + p2)), .second] [(.long (p1 + p2))]) _
      refine goR X0 (BodyLoose.notSynchronized Bd) (v := (some (.long (p1 + p2)))) (fun h => by rw [Bd.returns] at h; cases h) (Q1 Z p1 p2 h0 n0) (fun fs hr => retOut X0 hx (t := .long) (w := (.long (p1 + p2))) Bd.returns rfl (Or.inr (Or.inl ⟨rfl, rfl, _, rfl⟩)) (hb hby d1_28) hr) (by decide) (by decide) ?_
      show Q1 Z p1 p2 h0 n0 _ s₁.heap _
      rw [e0]
      exact ⟨(by rw [own_1, if_pos hc1, if_neg hc2]), N0, rfl⟩
  · skip
    refine go1 (fun _ => XS.ifNo X0.here hx rfl (hb hby d1_3) rfl ((if0 _ _).trans (flt (mt (lw_gt _ _).mp hc1)).2.2.1)) ?_
    show Go p.tables e below s₁ (mkF m 6 #[.val (.long p1), .second, .val (.long p2), .second, .unset, .unset] []) _
    refine go1 (fun _ => XS.lconst X0.here hx rfl (hb hby d1_6)) ?_
    show Go p.tables e below s₁ (mkF m 7 #[.val (.long p1), .second, .val (.long p2), .second, .unset, .unset] [(.long (0 : Int64))]) _
    refine goR X0 (BodyLoose.notSynchronized Bd) (v := (some (.long (0 : Int64)))) (fun h => by rw [Bd.returns] at h; cases h) (Q1 Z p1 p2 h0 n0) (fun fs hr => retOut X0 hx (t := .long) (w := (.long (0 : Int64))) Bd.returns rfl (Or.inr (Or.inl ⟨rfl, rfl, _, rfl⟩)) (hb hby d1_7) hr) (by decide) (by decide) ?_
    show Q1 Z p1 p2 h0 n0 _ s₁.heap _
    rw [e0]
    exact ⟨(by rw [own_1, if_neg hc1]), N0, rfl⟩
theorem d2_0 : decode method_2_code 0 = .ok (.lload_n 2, 1) := by decide +kernel
theorem d2_1 : decode method_2_code 1 = .ok (.lconst 0, 1) := by decide +kernel
theorem d2_2 : decode method_2_code 2 = .ok (.lcmp, 1) := by decide +kernel
theorem d2_3 : decode method_2_code 3 = .ok (.ifCond .gt 5, 3) := by decide +kernel
theorem d2_6 : decode method_2_code 6 = .ok (.lconst 0, 1) := by decide +kernel
theorem d2_7 : decode method_2_code 7 = .ok (.lreturn, 1) := by decide +kernel
theorem d2_8 : decode method_2_code 8 = .ok (.lload_n 0, 1) := by decide +kernel
theorem d2_9 : decode method_2_code 9 = .ok (.ldc2_w 9, 3) := by decide +kernel
theorem d2_12 : decode method_2_code 12 = .ok (.lload_n 2, 1) := by decide +kernel
theorem d2_13 : decode method_2_code 13 = .ok (.lsub, 1) := by decide +kernel
theorem d2_14 : decode method_2_code 14 = .ok (.lcmp, 1) := by decide +kernel
theorem d2_15 : decode method_2_code 15 = .ok (.ifCond .le 7, 3) := by decide +kernel
theorem d2_18 : decode method_2_code 18 = .ok (.ldc2_w 9, 3) := by decide +kernel
theorem d2_21 : decode method_2_code 21 = .ok (.lreturn, 1) := by decide +kernel
theorem d2_22 : decode method_2_code 22 = .ok (.lload_n 0, 1) := by decide +kernel
theorem d2_23 : decode method_2_code 23 = .ok (.lload_n 2, 1) := by decide +kernel
theorem d2_24 : decode method_2_code 24 = .ok (.ladd, 1) := by decide +kernel
theorem d2_25 : decode method_2_code 25 = .ok (.lreturn, 1) := by decide +kernel
theorem pn_2 : plainName "com/example/enrout/enrout/wire/ContentExpirationPinLaw" = true := by first | (simp [plainName, overriddenIn]; done) | decide +kernel
theorem ef_2 (m : MethodId) (p1 : Int64) (p2 : Int64) : entryFrame m #[(.long p1), (.long p2)] 4 = mkF m 0 #[.val (.long p1), .second, .val (.long p2), .second] [] := by first | (simp [entryFrame, mkF, argsToLocals, Value.category]; done) | rfl
def own_2 (p1 : Int64) (p2 : Int64) : Int64 :=
  if (0 : Int64) < p2 then
    if ((9223372036854775807 : Int64) - p2) < p1 then
      (9223372036854775807 : Int64)
    else
      (p1 + p2)
  else
    (0 : Int64)
def Q2 (Z : State) (p1 : Int64) (p2 : Int64) (h0 : Heap) (n0 : Nat) (v : Option Value) (h : Heap) (L : List Loc) : Prop := v = some (.long (own_2 p1 p2)) ∧ Fr n0 L ∧ h = h0
set_option maxRecDepth 65536 in
set_option maxHeartbeats 40000000 in
theorem rm2 (l : Launch) (Z : State) (a0 : Array Value) (hw : ∀ d ∈ tables_1, d.before a0 Z = true) (ws : List Jvm.Cond) (p1 : Int64) (p2 : Int64) (h0 : Heap) (n0 : Nat) (Z0 : n0 ≤ h0.size) :
    MetFree l (⟨"com/example/enrout/enrout/wire/ContentExpirationPinLaw", "reference", "(JJ)J"⟩ : MethodName) (head1 (Jvm.Cond.code (⟨"com/example/enrout/enrout/wire/ContentExpirationPinLaw", "reference", "(JJ)J"⟩ : MethodName) method_2_code 4 (some .long) :: ws) ({ frames := 0, cells := 0, slots := 0, locals := 0 } : Room)) (fun a U => a = #[(.long p1), (.long p2)] ∧ Z.Warmed39 U.vm ∧ U.heap = h0) (fun _ _ _ _ _ => True) (fun _ U o U' => ∃ v L, o = .returned v ∧ Q2 Z p1 p2 h0 n0 v U'.heap L ∧ FrameEnd U o U' L ({ frames := 0, cells := 0, slots := 0, locals := 0 } : Room).cells ({ frames := 0, cells := 0, slots := 0, locals := 0 } : Room).slots) := by
  refine MetFree.of_bodySF (plainFor_of_name pn_2) hisR ?_
  intro p e s m args below meth c s₁ Bd hml0 hP hK
  obtain ⟨rfl, hZ, hh⟩ := hP
  have hx := Bd.exec
  have hby := Bd.bytes
  have hml : c.maxLocals = 4 := hml0
  have hown : s.vm.findClass "com/example/enrout/enrout/wire/ContentExpirationPinLaw" = some m.cls := findClass_of_methodNamed Bd.named
  have hnm := (name_of_methodNamed Bd.named Bd.method).1
  have X0 : Stand p l e ({ frames := 0, cells := 0, slots := 0, locals := 0 } : Room) s m #[(.long p1), (.long p2)] below meth c s₁ [] 0 0 := Stand.of_body Bd
  have e0 : s₁.heap = h0 := by rw [← hh, Bd.state]; rfl
  have N0 := Fr.nil n0
  refine goB (ef_2 m p1 p2) ?_
  show Go p.tables e below s₁ (mkF m 0 #[.val (.long p1), .second, .val (.long p2), .second] []) _
  refine go1 (fun _ => XS.lloadN X0.here hx rfl (hb hby d2_0) rfl) ?_
  show Go p.tables e below s₁ (mkF m 1 #[.val (.long p1), .second, .val (.long p2), .second] [(.long p2)]) _
  refine go1 (fun _ => XS.lconst X0.here hx rfl (hb hby d2_1)) ?_
  show Go p.tables e below s₁ (mkF m 2 #[.val (.long p1), .second, .val (.long p2), .second] [(.long (0 : Int64)), (.long p2)]) _
  refine go1 (fun _ => XS.lcmp X0.here hx rfl (hb hby d2_2) rfl) ?_
  show Go p.tables e below s₁ (mkF m 3 #[.val (.long p1), .second, .val (.long p2), .second] [(.int (lcmpW p2 (0 : Int64)))]) _
  by_cases hc1 : (0 : Int64) < p2
  · skip
    refine go1 (fun _ => XS.ifYes X0.here hx rfl (pc0 := 3) (pc' := 8) rfl (hb hby d2_3) rfl ((if0 _ _).trans (tlt ((lw_gt _ _).mpr hc1)).2.2.1) (by decide) (by decide)) ?_
    show Go p.tables e below s₁ (mkF m 8 #[.val (.long p1), .second, .val (.long p2), .second] []) _
    refine go1 (fun _ => XS.lloadN X0.here hx rfl (hb hby d2_8) rfl) ?_
    show Go p.tables e below s₁ (mkF m 9 #[.val (.long p1), .second, .val (.long p2), .second] [(.long p1)]) _
    refine go1 (X0.ldc2Long hx hown (mvT hZ (hw _ (List.mem_of_getElem? (i := 8) rfl))) (g := (mkF m 9 #[.val (.long p1), .second, .val (.long p2), .second] [(.long p1)])) rfl (hb hby d2_9)) ?_
    show Go p.tables e below s₁ (mkF m 12 #[.val (.long p1), .second, .val (.long p2), .second] [(.long (9223372036854775807 : Int64)), (.long p1)]) _
    refine go1 (fun _ => XS.lloadN X0.here hx rfl (hb hby d2_12) rfl) ?_
    show Go p.tables e below s₁ (mkF m 13 #[.val (.long p1), .second, .val (.long p2), .second] [(.long p2), (.long (9223372036854775807 : Int64)), (.long p1)]) _
    refine go1 (fun _ => XS.lsub X0.here hx rfl (hb hby d2_13) rfl) ?_
    show Go p.tables e below s₁ (mkF m 14 #[.val (.long p1), .second, .val (.long p2), .second] [(.long ((9223372036854775807 : Int64) - p2)), (.long p1)]) _
    refine go1 (fun _ => XS.lcmp X0.here hx rfl (hb hby d2_14) rfl) ?_
    show Go p.tables e below s₁ (mkF m 15 #[.val (.long p1), .second, .val (.long p2), .second] [(.int (lcmpW p1 ((9223372036854775807 : Int64) - p2)))]) _
    by_cases hc2 : ((9223372036854775807 : Int64) - p2) < p1
    · skip
      refine go1 (fun _ => XS.ifNo X0.here hx rfl (hb hby d2_15) rfl ((if0 _ _).trans (tlt ((lw_gt _ _).mpr hc2)).2.2.2)) ?_
      show Go p.tables e below s₁ (mkF m 18 #[.val (.long p1), .second, .val (.long p2), .second] []) _
      refine go1 (X0.ldc2Long hx hown (mvT hZ (hw _ (List.mem_of_getElem? (i := 8) rfl))) (g := (mkF m 18 #[.val (.long p1), .second, .val (.long p2), .second] [])) rfl (hb hby d2_18)) ?_
      show Go p.tables e below s₁ (mkF m 21 #[.val (.long p1), .second, .val (.long p2), .second] [(.long (9223372036854775807 : Int64))]) _
      refine goR X0 (BodyLoose.notSynchronized Bd) (v := (some (.long (9223372036854775807 : Int64)))) (fun h => by rw [Bd.returns] at h; cases h) (Q2 Z p1 p2 h0 n0) (fun fs hr => retOut X0 hx (t := .long) (w := (.long (9223372036854775807 : Int64))) Bd.returns rfl (Or.inr (Or.inl ⟨rfl, rfl, _, rfl⟩)) (hb hby d2_21) hr) (by decide) (by decide) ?_
      show Q2 Z p1 p2 h0 n0 _ s₁.heap _
      rw [e0]
      exact ⟨(by rw [own_2, if_pos hc1, if_pos hc2]), N0, rfl⟩
    · skip
      refine go1 (fun _ => XS.ifYes X0.here hx rfl (pc0 := 15) (pc' := 22) rfl (hb hby d2_15) rfl ((if0 _ _).trans (flt (mt (lw_gt _ _).mp hc2)).2.2.2) (by decide) (by decide)) ?_
      show Go p.tables e below s₁ (mkF m 22 #[.val (.long p1), .second, .val (.long p2), .second] []) _
      refine go1 (fun _ => XS.lloadN X0.here hx rfl (hb hby d2_22) rfl) ?_
      show Go p.tables e below s₁ (mkF m 23 #[.val (.long p1), .second, .val (.long p2), .second] [(.long p1)]) _
      refine go1 (fun _ => XS.lloadN X0.here hx rfl (hb hby d2_23) rfl) ?_
      show Go p.tables e below s₁ (mkF m 24 #[.val (.long p1), .second, .val (.long p2), .second] [(.long p2), (.long p1)]) _
      refine go1 (fun _ => XS.ladd X0.here hx rfl (hb hby d2_24) rfl) ?_
      show Go p.tables e below s₁ (mkF m 25 #[.val (.long p1), .second, .val (.long p2), .second] [(.long (p1 + p2))]) _
      refine goR X0 (BodyLoose.notSynchronized Bd) (v := (some (.long (p1 + p2)))) (fun h => by rw [Bd.returns] at h; cases h) (Q2 Z p1 p2 h0 n0) (fun fs hr => retOut X0 hx (t := .long) (w := (.long (p1 + p2))) Bd.returns rfl (Or.inr (Or.inl ⟨rfl, rfl, _, rfl⟩)) (hb hby d2_25) hr) (by decide) (by decide) ?_
      show Q2 Z p1 p2 h0 n0 _ s₁.heap _
      rw [e0]
      exact ⟨(by rw [own_2, if_pos hc1, if_neg hc2]), N0, rfl⟩
  · skip
    refine go1 (fun _ => XS.ifNo X0.here hx rfl (hb hby d2_3) rfl ((if0 _ _).trans (flt (mt (lw_gt _ _).mp hc1)).2.2.1)) ?_
    show Go p.tables e below s₁ (mkF m 6 #[.val (.long p1), .second, .val (.long p2), .second] []) _
    refine go1 (fun _ => XS.lconst X0.here hx rfl (hb hby d2_6)) ?_
    show Go p.tables e below s₁ (mkF m 7 #[.val (.long p1), .second, .val (.long p2), .second] [(.long (0 : Int64))]) _
    refine goR X0 (BodyLoose.notSynchronized Bd) (v := (some (.long (0 : Int64)))) (fun h => by rw [Bd.returns] at h; cases h) (Q2 Z p1 p2 h0 n0) (fun fs hr => retOut X0 hx (t := .long) (w := (.long (0 : Int64))) Bd.returns rfl (Or.inr (Or.inl ⟨rfl, rfl, _, rfl⟩)) (hb hby d2_7) hr) (by decide) (by decide) ?_
    show Q2 Z p1 p2 h0 n0 _ s₁.heap _
    rw [e0]
    exact ⟨(by rw [own_2, if_neg hc1]), N0, rfl⟩
theorem pn_0 : plainName "com/example/enrout/enrout/wire/ContentExpirationPinLaw" = true := by first | (simp [plainName, overriddenIn]; done) | decide +kernel
theorem pd0_0 : parseMethodDescriptor "(JJ)J" = some ⟨[.long, .long], some .long⟩ := by decide +kernel
theorem ef_0 (m : MethodId) (p1 : Int64) (p2 : Int64) : entryFrame m #[(.long p1), (.long p2)] maxLocals = mkF m 0 #[.val (.long p1), .second, .val (.long p2), .second, .unset, .unset] [] := by first | (simp [entryFrame, mkF, argsToLocals, Value.category, maxLocals]; done) | rfl
def own_0 (p1 : Int64) (p2 : Int64) : Int32 :=
  if (own_1 p1 p2) = (own_2 p1 p2) then
    (1 : Int32)
  else
    (0 : Int32)
def Q0 (Z : State) (p1 : Int64) (p2 : Int64) (h0 : Heap) (n0 : Nat) (v : Option Value) (h : Heap) (L : List Loc) : Prop := v = some (.int (own_0 p1 p2)) ∧ Fr n0 L
set_option maxRecDepth 65536 in
set_option maxHeartbeats 40000000 in
theorem rm0 (l : Launch) (Z : State) (a0 : Array Value) (hw : ∀ d ∈ tables_1, d.before a0 Z = true) (ws : List Jvm.Cond) (p1 : Int64) (p2 : Int64) (h0 : Heap) (n0 : Nat) (Z0 : n0 ≤ h0.size) (O0 : Old Z n0 h0) :
    MetFree l x (head1 (Jvm.Cond.code x code maxLocals ret :: ws) room_1) (fun a U => a = #[(.long p1), (.long p2)] ∧ Z.Warmed39 U.vm ∧ U.heap = h0) (fun _ _ _ _ _ => True) (fun _ U o U' => ∃ v L, o = .returned v ∧ Q0 Z p1 p2 h0 n0 v U'.heap L ∧ FrameEnd U o U' L 0 0) := by
  refine MetFree.of_bodySF (plainFor_of_name pn_0) hisR ?_
  intro p e s m args below meth c s₁ Bd hml0 hP hK
  obtain ⟨rfl, hZ, hh⟩ := hP
  have hx := Bd.exec
  have hby := Bd.bytes
  have hml : c.maxLocals = 6 := hml0
  have hown : s.vm.findClass "com/example/enrout/enrout/wire/ContentExpirationPinLaw" = some m.cls := findClass_of_methodNamed Bd.named
  have hnm := (name_of_methodNamed Bd.named Bd.method).1
  have X0 : Stand p l e room_1 s m #[(.long p1), (.long p2)] below meth c s₁ [] 0 0 := Stand.of_body Bd
  have e0 : s₁.heap = h0 := by rw [← hh, Bd.state]; rfl
  have N0 := Fr.nil n0
  refine goB (ef_0 m p1 p2) ?_
  show Go p.tables e below s₁ (mkF m 0 #[.val (.long p1), .second, .val (.long p2), .second, .unset, .unset] []) _
  refine go1 (fun _ => XS.lloadN X0.here hx rfl (hb hby at_0) rfl) ?_
  show Go p.tables e below s₁ (mkF m 1 #[.val (.long p1), .second, .val (.long p2), .second, .unset, .unset] [(.long p1)]) _
  refine go1 (fun _ => XS.lloadN X0.here hx rfl (hb hby at_1) rfl) ?_
  show Go p.tables e below s₁ (mkF m 2 #[.val (.long p1), .second, .val (.long p2), .second, .unset, .unset] [(.long p2), (.long p1)]) _
  obtain ⟨_, _, ⟨T1, L1, k1, n1⟩, -, X1, ⟨Lc1, hQ1, l1, y1, z1⟩, st1⟩ := Jvm.LawKit.callS X0 hx (y := (⟨"com/example/enrout/enrout/wire/Frame$Content", "expiration", "(JJ)J"⟩ : MethodName)) hown (mvT hZ (hw _ (List.mem_of_getElem? (i := 0) rfl))) (mvT hZ (hw _ (List.mem_of_getElem? (i := 1) rfl))) (mvT hZ (hw _ (List.mem_of_getElem? (i := 2) rfl))) (mvT hZ (hw _ (List.mem_of_getElem? (i := 3) rfl))) (by decide) (backOf (W := 0) (rm1 l Z a0 hw [] p1 p2 h0 n0 Z0 ) hZ (hw _ (List.mem_of_getElem? (i := 3) rfl)) (hw _ (List.mem_of_getElem? (i := 2) rfl)) (by decide) (by decide)) (g := (mkF m 2 #[.val (.long p1), .second, .val (.long p2), .second, .unset, .unset] [(.long p2), (.long p1)])) rfl (by rw [hml]; rfl) (argsL := [(.long p1), (.long p2)]) (rest := []) (lenOf pd0_0 rfl) rfl (by show 2 * 0 + _ ≤ _; exact Nat.le_of_eq rfl) (hb hby at_2) (fun _ _ => ⟨rfl, e0, (by decide : 0 + 0 ≤ _), (by decide : 0 + 0 ≤ _)⟩)
  dsimp only [Pt.U, Pt.locs, Pt.cells, Pt.slots] at X1 l1 y1 z1 st1 hQ1
  subst l1 y1 z1
  obtain ⟨rfl, N1q, e1⟩ := hQ1
  have N1 := Fr.app N0 N1q
  refine go1 st1 ?_
  show Go p.tables e below T1 (mkF m 5 #[.val (.long p1), .second, .val (.long p2), .second, .unset, .unset] [(.long (own_1 p1 p2))]) _
  refine go1 (fun _ => XS.lstore X1.here hx rfl (hb hby at_5) rfl (l' := #[.val (.long p1), .second, .val (.long p2), .second, .val (.long (own_1 p1 p2)), .second]) rfl) ?_
  show Go p.tables e below T1 (mkF m 7 #[.val (.long p1), .second, .val (.long p2), .second, .val (.long (own_1 p1 p2)), .second] []) _
  refine go1 (fun _ => XS.lload X1.here hx rfl (hb hby at_7) rfl) ?_
  show Go p.tables e below T1 (mkF m 9 #[.val (.long p1), .second, .val (.long p2), .second, .val (.long (own_1 p1 p2)), .second] [(.long (own_1 p1 p2))]) _
  refine go1 (fun _ => XS.lloadN X1.here hx rfl (hb hby at_9) rfl) ?_
  show Go p.tables e below T1 (mkF m 10 #[.val (.long p1), .second, .val (.long p2), .second, .val (.long (own_1 p1 p2)), .second] [(.long p1), (.long (own_1 p1 p2))]) _
  refine go1 (fun _ => XS.lloadN X1.here hx rfl (hb hby at_10) rfl) ?_
  show Go p.tables e below T1 (mkF m 11 #[.val (.long p1), .second, .val (.long p2), .second, .val (.long (own_1 p1 p2)), .second] [(.long p2), (.long p1), (.long (own_1 p1 p2))]) _
  obtain ⟨_, _, ⟨T2, L2, k2, n2⟩, -, X2, ⟨Lc2, hQ2, l2, y2, z2⟩, st2⟩ := Jvm.LawKit.callS X1 hx (y := (⟨"com/example/enrout/enrout/wire/ContentExpirationPinLaw", "reference", "(JJ)J"⟩ : MethodName)) hown (mvT hZ (hw _ (List.mem_of_getElem? (i := 4) rfl))) (mvT hZ (hw _ (List.mem_of_getElem? (i := 5) rfl))) (mvT hZ (hw _ (List.mem_of_getElem? (i := 6) rfl))) (mvT hZ (hw _ (List.mem_of_getElem? (i := 7) rfl))) (by decide) (backOf (W := 2) (rm2 l Z a0 hw [] p1 p2 h0 n0 Z0 ) hZ (hw _ (List.mem_of_getElem? (i := 7) rfl)) (hw _ (List.mem_of_getElem? (i := 6) rfl)) (by decide) (by decide)) (g := (mkF m 11 #[.val (.long p1), .second, .val (.long p2), .second, .val (.long (own_1 p1 p2)), .second] [(.long p2), (.long p1), (.long (own_1 p1 p2))])) rfl (by rw [hml]; rfl) (argsL := [(.long p1), (.long p2)]) (rest := [(.long (own_1 p1 p2))]) (lenOf pd0_0 rfl) rfl (by show 2 * 0 + _ ≤ _; exact Nat.le_of_eq rfl) (hb hby at_11) (fun _ _ => ⟨rfl, e1, (by decide : 0 + 0 ≤ _), (by decide : 0 + 0 ≤ _)⟩)
  dsimp only [Pt.U, Pt.locs, Pt.cells, Pt.slots] at X2 l2 y2 z2 st2 hQ2
  subst l2 y2 z2
  obtain ⟨rfl, N2q, e2⟩ := hQ2
  have N2 := Fr.app N1 N2q
  refine go1 st2 ?_
  show Go p.tables e below T2 (mkF m 14 #[.val (.long p1), .second, .val (.long p2), .second, .val (.long (own_1 p1 p2)), .second] [(.long (own_2 p1 p2)), (.long (own_1 p1 p2))]) _
  refine go1 (fun _ => XS.lcmp X2.here hx rfl (hb hby at_14) rfl) ?_
  show Go p.tables e below T2 (mkF m 15 #[.val (.long p1), .second, .val (.long p2), .second, .val (.long (own_1 p1 p2)), .second] [(.int (lcmpW (own_1 p1 p2) (own_2 p1 p2)))]) _
  by_cases hc3 : (own_1 p1 p2) = (own_2 p1 p2)
  · skip
    refine go1 (fun _ => XS.ifNo X2.here hx rfl (hb hby at_15) rfl ((if0 _ _).trans (teq ((lw_eq _ _).mpr hc3)).2)) ?_
    show Go p.tables e below T2 (mkF m 18 #[.val (.long p1), .second, .val (.long p2), .second, .val (.long (own_1 p1 p2)), .second] []) _
    refine go1 (fun _ => XS.iconst X2.here hx rfl (hb hby at_18)) ?_
    show Go p.tables e below T2 (mkF m 19 #[.val (.long p1), .second, .val (.long p2), .second, .val (.long (own_1 p1 p2)), .second] [(.int (1 : Int32))]) _
    refine go1 (fun _ => XS.goto X2.here hx rfl (pc0 := 19) (pc' := 23) rfl (hb hby at_19) (by decide) (by decide)) ?_
    show Go p.tables e below T2 (mkF m 23 #[.val (.long p1), .second, .val (.long p2), .second, .val (.long (own_1 p1 p2)), .second] [(.int (1 : Int32))]) _
    refine goR X2 (BodyLoose.notSynchronized Bd) (v := (some (.int (1 : Int32)))) (fun h => by rw [Bd.returns] at h; cases h) (Q0 Z p1 p2 h0 n0) (fun fs hr => retN X2 hx (t := .boolean) Bd.returns (by simp) (hb hby at_23) hr) (by decide) (by decide) ?_
    show Q0 Z p1 p2 h0 n0 _ T2.heap _
    rw [e2]
    exact ⟨(by rw [own_0, if_pos hc3]), N2⟩
  · skip
    refine go1 (fun _ => XS.ifYes X2.here hx rfl (pc0 := 15) (pc' := 22) rfl (hb hby at_15) rfl ((if0 _ _).trans (feq (mt (lw_eq _ _).mp hc3)).2) (by decide) (by decide)) ?_
    show Go p.tables e below T2 (mkF m 22 #[.val (.long p1), .second, .val (.long p2), .second, .val (.long (own_1 p1 p2)), .second] []) _
    refine go1 (fun _ => XS.iconst X2.here hx rfl (hb hby at_22)) ?_
    show Go p.tables e below T2 (mkF m 23 #[.val (.long p1), .second, .val (.long p2), .second, .val (.long (own_1 p1 p2)), .second] [(.int (0 : Int32))]) _
    refine goR X2 (BodyLoose.notSynchronized Bd) (v := (some (.int (0 : Int32)))) (fun h => by rw [Bd.returns] at h; cases h) (Q0 Z p1 p2 h0 n0) (fun fs hr => retN X2 hx (t := .boolean) Bd.returns (by simp) (hb hby at_23) hr) (by decide) (by decide) ?_
    show Q0 Z p1 p2 h0 n0 _ T2.heap _
    rw [e2]
    exact ⟨(by rw [own_0, if_neg hc3]), N2⟩
theorem own_same (a t : Int64) : own_1 a t = own_2 a t := by
  unfold own_1 own_2
  by_cases h : (0 : Int64) < t
  · rw [if_pos h, if_pos h]
    have k1 := Int64.lt_iff_toInt_lt.mp h
    have z0 : (0 : Int64).toInt = 0 := by decide
    have zm : (9223372036854775807 : Int64).toInt = 9223372036854775807 := by decide
    have ra := rng64 a
    have rt := rng64 t
    have c1 := c_ladd a t
    have c2 := c_lsub (9223372036854775807 : Int64) t
    have r1 := rng64 (a + t)
    have r2 := rng64 ((9223372036854775807 : Int64) - t)
    by_cases h1 : (a + t) < a
    · have k2 := Int64.lt_iff_toInt_lt.mp h1
      have h2 : ((9223372036854775807 : Int64) - t) < a := by rw [Int64.lt_iff_toInt_lt]; omega
      rw [if_pos h1, if_pos h2]
    · have k2 := mt Int64.lt_iff_toInt_lt.mpr h1
      have h2 : ¬ ((9223372036854775807 : Int64) - t) < a := by rw [Int64.lt_iff_toInt_lt]; omega
      rw [if_neg h1, if_neg h2]
  · rw [if_neg h, if_neg h]
theorem own_true (a t : Int64) : own_0 a t = 1 := by
  unfold own_0
  rw [if_pos (own_same a t)]
set_option maxRecDepth 65536 in
set_option maxHeartbeats 40000000 in
theorem comes_1 {Post : Tables → Env → Array Value → State → Outcome → State → Prop} (hpost : ∀ tb e args s v u, (limb_1_1.after args s (.returned v) u = true ∧ limb_1_2.after args s (.returned v) u = true ∧ True) → FrameEnd s (.returned v) u (Jvm.fieldLocs frame_1_writes args s ++ Jvm.arrayLocs frame_1_arrays args s ++ Jvm.staticLocs frame_1_statics s) 0 0 → Post tb e args s (.returned v) u) :
    ArmFor flags0 classFile x code maxLocals ret World_1 tables_1 room_1 Calls_1 rest_1 Pre_1 Post := by
  intro l hfl _ _ p e ha hc hk s m args below hf hA hF happ hP
  obtain ⟨hcalls, hrest, hpre⟩ := hP
  obtain ⟨-, -, -, hnamed, -, -, -, hat⟩ := (Spec.applies_iff hf).mp happ
  obtain ⟨hg, hn⟩ := and_e (Cond.before_iff.mp (show (Jvm.Cond.and given_1 narrow_1).before args s = true from hpre))
  obtain ⟨gc, q0⟩ := and_e hg
  obtain ⟨ga0, q1⟩ := and_e q0
  have ga1 := q1
  obtain ⟨w0, w1, rfl⟩ : ∃ w0 w1 : Value, args = #[w0, w1] := by
    have hs : args.size = 2 := by simpa [Cond.value, given_1] using gc
    obtain ⟨L⟩ := args
    match L, hs with
    | [w0, w1], _ => exact ⟨w0, w1, rfl⟩
  have hw := fun d (hd : d ∈ tables_1) => atoms_spec (ws := Jvm.Cond.code x code maxLocals ret :: tables_1) hat d (List.mem_cons_of_mem _ hd)
  have hfit : Fit s := fun {y c} hc i hi => by
    obtain ⟨ha, rfl⟩ := Array.getElem?_eq_some_iff.mp hc
    have q := List.all_eq_true.mp ((Array.all_eq_true_iff_forall_mem.mp hF) _ (Array.getElem_mem ha)) i (List.mem_range.mpr hi)
    simpa [Array.getElem?_eq_getElem hi] using q
  obtain ⟨i0, ei0⟩ := isL_v ga0
  obtain rfl : w0 = (.long i0) := Option.some.inj ei0
  obtain ⟨i1, ei1⟩ := isL_v ga1
  obtain rfl : w1 = (.long i1) := Option.some.inj ei1
  obtain ⟨n, o, h1, h2, h3, _, L, rfl, ⟨hv, N⟩, hq⟩ := rm0 l s _ hw tables_1 i0 i1 s.heap s.heap.size (Nat.le_refl _) (Old.start s)  p e ha hc hk s m _ below hf ((Spec.applies_iff_loose hf).mp happ).1 ⟨rfl, State.Warmed39.refl s, rfl⟩ trivial
  rw [own_true] at hv
  subst hv
  refine ⟨n, _, h1, h2, h3, hpost _ _ _ _ _ _ ⟨Cond.after_iff.mpr rfl, Cond.after_iff.mpr (eq_i res_at (Term.int_eval (1)) rfl), trivial⟩ ⟨hq.1, hq.2.1, (hq.2.2.sift fun y hy => Or.inr (N y hy)).mono (by decide) (by decide)⟩⟩
theorem main_1_1 : Claimed_1_1 := comes_1 fun _ _ _ _ _ _ h hF => ⟨h.1, hF⟩
theorem main_1_2 : Claimed_1_2 := comes_1 fun _ _ _ _ _ _ h hF => ⟨h.2.1, hF⟩
end Jvm.Pilot.@@N@@
namespace Jvm.Pilot.@@N@@
open Jvm Jvm.ClassFile Sem Op Lib Jvm.Free Jvm.Stand Jvm.Pilot.@@N@@.Jvm.D
/-! MADE BY PROGRAM (witnessworld.py) out of the Statement's table words and the real class files: 10 classes; the members and pool entries that the words name. The judged class is class 1, her method 2. -/
namespace start1
open Jvm.ClassFile
def u (s : String) : CpInfo := .utf8 (stringToUtf16 s)
/-- a pool by its gaps: so many unusable entries, then the entry; so many at the end -/
def gap : Nat → List CpInfo → List CpInfo
  | 0, r => r
  | n + 1, r => .unusable :: gap n r
def poolList (es : List (Nat × CpInfo)) (last : Nat) : List CpInfo := es.foldr (fun e r => gap e.1 (e.2 :: r)) (gap last [])
def pool (es : List (Nat × CpInfo)) (last : Nat) : Array CpInfo := ⟨poolList es last⟩
def fileOf (pool : Array CpInfo) (this : Nat) (attrs : Array Attribute := #[]) (ms : Array MethodInfo := #[]) (fl : Nat := 33) (sup : Nat := 0) (ifs : Array Nat := #[]) (fds : Array FieldInfo := #[]) : ClassFile where
  minorVersion := 0
  majorVersion := 65
  constantPool := pool
  accessFlags := fl
  thisClass := this
  superClass := sup
  interfaces := ifs
  fields := fds
  methods := ms
  attributes := attrs
def plain (name : String) (sup : Option ClassId) : Class where
  name := name
  kind := .ordinary
  loader := none
  accessFlags := 33
  super := sup
  interfaces := #[]
  cf := none
  fields := #[]
  methods := #[]
  instanceTypes := #[]
  staticTypes := #[]
  resolved := #[]
  callSites := []
  init := .initialized
  statics := none
  mirror := none

def pool0 : Array CpInfo := pool [(5, u "<init>"), (0, u "()V"), (1, .class_ 10), (1, u "java/lang/Object")] 113

def k0m0 : Method := { name := "<init>", desc := "()V", sig := { parameters := [], returnType := none }, accessFlags := 1, code := none }
/-- java/lang/Object -/
def k0 : Class := { plain "java/lang/Object" none with
  accessFlags := 33
  interfaces := #[]
  cf := some (fileOf pool0 8 #[] #[{ accessFlags := 1, nameIndex := 5, descriptorIndex := 6, attributes := #[] }] 33 0 #[] #[])
  fields := #[]
  methods := #[k0m0]
  instanceTypes := #[]
  staticTypes := #[]
  resolved := Array.replicate 124 none
  statics := none }

def pool1 : Array CpInfo := pool [(2, .class_ 4), (1, u "java/lang/Object"), (0, u "<init>"), (0, u "()V"), (2, .long 9223372036854775807), (1, .methodref 12 13), (0, .class_ 14), (0, .nameAndType 15 16), (0, u "com/example/enrout/enrout/wire/Frame$Content"), (0, u "expiration"), (0, u "(JJ)J"), (0, .methodref 18 19), (0, .class_ 20), (0, .nameAndType 21 16), (0, u "com/example/enrout/enrout/wire/ContentExpirationPinLaw"), (0, u "reference"), (3, u "law"), (0, u "(JJ)Z")] 6

def k1m0 : Method := { name := "<init>", desc := "()V", sig := { parameters := [], returnType := none }, accessFlags := 2, code := none }
def k1c1 : Code := { maxStack := 6, maxLocals := 4, code := method_2_code, exceptionTable := #[], attributes := #[] }
def k1m1 : Method := { name := "reference", desc := "(JJ)J", sig := { parameters := [.long, .long], returnType := some .long }, accessFlags := 10, code := some k1c1 }
def k1c2 : Code := { maxStack := 6, maxLocals := 6, code := code, exceptionTable := #[], attributes := #[] }
def k1m2 : Method := { name := "law", desc := "(JJ)Z", sig := { parameters := [.long, .long], returnType := some .boolean }, accessFlags := 9, code := some k1c2 }
/-- com/example/enrout/enrout/wire/ContentExpirationPinLaw -/
def k1 : Class := { plain "com/example/enrout/enrout/wire/ContentExpirationPinLaw" (some 0) with
  accessFlags := 49
  interfaces := #[]
  cf := some (fileOf pool1 18 #[] #[{ accessFlags := 2, nameIndex := 5, descriptorIndex := 6, attributes := #[] }, { accessFlags := 10, nameIndex := 21, descriptorIndex := 16, attributes := #[] }, { accessFlags := 9, nameIndex := 25, descriptorIndex := 26, attributes := #[] }] 49 2 #[] #[])
  fields := #[]
  methods := #[k1m0, k1m1, k1m2]
  instanceTypes := #[]
  staticTypes := #[]
  resolved := Array.replicate 33 none
  statics := none }

def pool2 : Array CpInfo := pool [(2, .class_ 4), (1, u "java/lang/Object"), (0, u "<init>"), (0, u "()V"), (0, .class_ 8), (0, u "java/lang/Record")] 13

def k2m0 : Method := { name := "<init>", desc := "()V", sig := { parameters := [], returnType := none }, accessFlags := 4, code := none }
/-- java/lang/Record -/
def k2 : Class := { plain "java/lang/Record" (some 0) with
  accessFlags := 1057
  interfaces := #[]
  cf := some (fileOf pool2 7 #[] #[{ accessFlags := 4, nameIndex := 5, descriptorIndex := 6, attributes := #[] }] 1057 2 #[] #[])
  fields := #[]
  methods := #[k2m0]
  instanceTypes := #[]
  staticTypes := #[]
  resolved := Array.replicate 22 none
  statics := none }

def pool3 : Array CpInfo := pool [(2, .class_ 4), (1, u "java/lang/Record"), (9, u "messageClass"), (7, u "body"), (1, .class_ 26), (1, u "com/example/enrout/enrout/wire/Frame$Content"), (0, u "sender"), (0, u "Ljava/lang/String;"), (2, u "messageId"), (0, u "J"), (2, u "sentAt"), (2, u "Lcom/example/enrout/enrout/wire/MessageClass;"), (2, u "Lcom/example/enrout/enrout/wire/Body;"), (2, .long 9223372036854775807), (15, u "expiration"), (0, u "(JJ)J"), (52, u "TIME_TO_LIVE"), (19, .class_ 135), (0, u "com/example/enrout/enrout/wire/Frame")] 23

def k3c0 : Code := { maxStack := 4, maxLocals := 6, code := prog_61_method_2_code, exceptionTable := #[], attributes := #[] }
def k3m0 : Method := { name := "expiration", desc := "(JJ)J", sig := { parameters := [.long, .long], returnType := some .long }, accessFlags := 9, code := some k3c0 }
/-- com/example/enrout/enrout/wire/Frame$Content -/
def k3 : Class := { plain "com/example/enrout/enrout/wire/Frame$Content" (some 2) with
  accessFlags := 49
  interfaces := #[]
  cf := some (fileOf pool3 24 #[.nestHost 134] #[{ accessFlags := 9, nameIndex := 60, descriptorIndex := 61, attributes := #[] }] 49 2 #[] #[{ accessFlags := 18, nameIndex := 27, descriptorIndex := 28, attributes := #[] }, { accessFlags := 18, nameIndex := 31, descriptorIndex := 32, attributes := #[] }, { accessFlags := 18, nameIndex := 35, descriptorIndex := 32, attributes := #[] }, { accessFlags := 18, nameIndex := 14, descriptorIndex := 38, attributes := #[] }, { accessFlags := 18, nameIndex := 22, descriptorIndex := 41, attributes := #[] }, { accessFlags := 25, nameIndex := 114, descriptorIndex := 28, attributes := #[] }])
  fields := #[{ name := "sender", type := (.object "java/lang/String"), accessFlags := 18, slot := 0, constantValue := 0 }, { name := "messageId", type := .long, accessFlags := 18, slot := 1, constantValue := 0 }, { name := "sentAt", type := .long, accessFlags := 18, slot := 2, constantValue := 0 }, { name := "messageClass", type := (.object "com/example/enrout/enrout/wire/MessageClass"), accessFlags := 18, slot := 3, constantValue := 0 }, { name := "body", type := (.object "com/example/enrout/enrout/wire/Body"), accessFlags := 18, slot := 4, constantValue := 0 }, { name := "TIME_TO_LIVE", type := (.object "java/lang/String"), accessFlags := 25, slot := 0, constantValue := 0 }]
  methods := #[k3m0]
  instanceTypes := #[(.object "java/lang/String"), .long, .long, (.object "com/example/enrout/enrout/wire/MessageClass"), (.object "com/example/enrout/enrout/wire/Body")]
  staticTypes := #[(.object "java/lang/String")]
  resolved := Array.replicate 159 none
  statics := none }

def pool4 : Array CpInfo := pool [(1, u "java/lang/Cloneable"), (0, .class_ 1), (0, u "java/lang/Object"), (0, .class_ 3)] 3

/-- java/lang/Cloneable -/
def k4 : Class := { plain "java/lang/Cloneable" (some 0) with
  accessFlags := 1537
  interfaces := #[]
  cf := some (fileOf pool4 2 #[] #[] 1537 4 #[] #[])
  fields := #[]
  methods := #[]
  instanceTypes := #[]
  staticTypes := #[]
  resolved := Array.replicate 8 none
  statics := none }

def pool5 : Array CpInfo := pool [(1, u "java/io/Serializable"), (0, .class_ 1), (0, u "java/lang/Object"), (0, .class_ 3)] 3

/-- java/io/Serializable -/
def k5 : Class := { plain "java/io/Serializable" (some 0) with
  accessFlags := 1537
  interfaces := #[]
  cf := some (fileOf pool5 2 #[] #[] 1537 4 #[] #[])
  fields := #[]
  methods := #[]
  instanceTypes := #[]
  staticTypes := #[]
  resolved := Array.replicate 8 none
  statics := none }

/-- the primitive byte -/
def k6 : Class := { plain "byte" none with kind := .primitive 'B', accessFlags := 0x411 }
/-- [B -/
def k7 : Class := { plain "[B" (some 0) with kind := .array 6 .byte, interfaces := #[4, 5], accessFlags := 1041 }

/-- the primitive int -/
def k8 : Class := { plain "int" none with kind := .primitive 'I', accessFlags := 0x411 }
/-- [I -/
def k9 : Class := { plain "[I" (some 0) with kind := .array 8 .int, interfaces := #[4, 5], accessFlags := 1041 }

def heap : Heap := #[]
def classes : Array Class := #[k0, k1, k2, k3, k4, k5, k6, k7, k8, k9]
def interned : List (Array UInt16 × Addr) := []
def slotsUsed : Nat := 0
def theMethod : MethodId := ⟨1, 2⟩
def args0 : Array Value := #[.long 5, .long 7]
def aboutOver (below : List Frame) : State where
  vm := { classes := classes, interned := interned.toArray }
  heap := heap
  slotsUsed := slotsUsed
  threads := #[{ frames := .invoking theMethod args0 :: below }]
def below0 : List Frame := [.native { method := ⟨0, 0⟩, args := #[] }]
def about1 : State := aboutOver below0
def p0 : Program := .bare "" "" ""
def e0 : Env := launch0.env 0 0 0
theorem w_frames : about1.frames = Frame.invoking theMethod args0 :: below0 := rfl
set_option maxRecDepth 65536 in
theorem w_args : argsFit about1.vm theMethod args0 = true := by decide +kernel
set_option maxRecDepth 65536 in
theorem w_heap : heapFits about1 = true := by decide +kernel
set_option maxRecDepth 65536 in
theorem w_runnable : about1.curStatus? = some .runnable := by decide +kernel
set_option maxRecDepth 65536 in
theorem w_alone : about1.alone = true := by decide +kernel
set_option maxRecDepth 65536 in
theorem w_named : about1.methodNamed? x = some theMethod := by decide +kernel
set_option maxRecDepth 65536 in
theorem w_hears : about1.hears theMethod below0 = true := by decide +kernel
set_option maxRecDepth 65536 in
theorem w_ripe : about1.ripe theMethod args0 below0 = true := by decide +kernel
theorem w_running : about1.status = .running := rfl
set_option maxRecDepth 65536 in
theorem w_room : about1.hasRoom e0.platform room_1 = true :=
  launch0.hasRoom_least _ room_1 (by decide +kernel) (by decide +kernel) (by decide +kernel) (by decide +kernel) (by decide +kernel) (by decide +kernel)
theorem allAtoms_all (ts : List Jvm.Cond) (a : Array Jvm.Value) (st : Jvm.State) : (allAtoms ts).before a st = ts.all (fun c => c.before a st) := by
  induction ts with
  | nil => rfl
  | cons c t ih =>
    show (Jvm.Cond.and c (allAtoms t)).before a st = _
    rw [Jvm.Cond.before_and, ih, List.all_cons]
def words1 : List Jvm.Cond := Jvm.Cond.code x code maxLocals ret :: tables_1
/-- a 'code' word, met by the world's own term for the bytes: nothing is compared byte by byte -/
theorem code_word {y : MethodName} {bytes : ByteArray} {mx : Nat} {rt : Option FieldType} {a : Array Value} {s : State} {m : MethodId} {meth : Method} {c : Code} (h1 : s.methodNamed? y = some m) (h2 : s.vm.method? m = some meth) (h3 : meth.code = some c) (h4 : c.code = bytes)
    (h5 : (c.maxLocals == mx && c.exceptionTable.isEmpty && decide (c.maxStack ≤ mostOperands) && decide (meth.sig.returnType = rt) && !meth.locks && decide (parseMethodDescriptor y.desc = some meth.sig)) = true) : (Jvm.Cond.code y bytes mx rt).before a s = true := by
  simp only [Bool.and_eq_true, beq_iff_eq, Bool.not_eq_true', decide_eq_true_eq] at h5
  obtain ⟨⟨⟨⟨⟨g1, g2⟩, g3⟩, g4⟩, g5⟩, g6⟩ := h5
  simp [Cond.before, Cond.holds, Cond.value, h1, h2, h3, h4, g1, g2, g3, g4, g5, g6]
def isCode : Jvm.Cond → Bool
  | .code _ _ _ _ => true
  | _ => false
theorem all_split {L : List Jvm.Cond} {P : Jvm.Cond → Bool} (h1 : L.all (fun c => isCode c || P c) = true) (h2 : ∀ c ∈ L.filter isCode, P c = true) : L.all P = true := by
  refine List.all_eq_true.mpr fun c hc => ?_
  have h := List.all_eq_true.mp h1 c hc
  rcases Bool.eq_false_or_eq_true (isCode c) with hi | hi
  · exact h2 c (List.mem_filter.mpr ⟨hc, hi⟩)
  · simpa [hi] using h
set_option maxRecDepth 65536 in
theorem w_c0 : (Jvm.Cond.code x code maxLocals ret).before args0 about1 = true := code_word (m := ⟨1, 2⟩) (meth := k1m2) (c := k1c2) (by decide +kernel) rfl rfl rfl (by decide +kernel)
set_option maxRecDepth 65536 in
theorem w_c1 : (Jvm.Cond.code ({ cls := "com/example/enrout/enrout/wire/Frame$Content", name := "expiration", desc := "(JJ)J" } : Jvm.MethodName) prog_61_method_2_code (6 : Nat) (Option.some Jvm.ClassFile.FieldType.long)).before args0 about1 = true := code_word (m := ⟨3, 0⟩) (meth := k3m0) (c := k3c0) (by decide +kernel) rfl rfl rfl (by decide +kernel)
set_option maxRecDepth 65536 in
theorem w_c2 : (Jvm.Cond.code ({ cls := "com/example/enrout/enrout/wire/ContentExpirationPinLaw", name := "reference", desc := "(JJ)J" } : Jvm.MethodName) method_2_code (4 : Nat) (Option.some Jvm.ClassFile.FieldType.long)).before args0 about1 = true := code_word (m := ⟨1, 1⟩) (meth := k1m1) (c := k1c1) (by decide +kernel) rfl rfl rfl (by decide +kernel)
def codes1 : List Jvm.Cond := [Jvm.Cond.code x code maxLocals ret, Jvm.Cond.code ({ cls := "com/example/enrout/enrout/wire/Frame$Content", name := "expiration", desc := "(JJ)J" } : Jvm.MethodName) prog_61_method_2_code (6 : Nat) (Option.some Jvm.ClassFile.FieldType.long), Jvm.Cond.code ({ cls := "com/example/enrout/enrout/wire/ContentExpirationPinLaw", name := "reference", desc := "(JJ)J" } : Jvm.MethodName) method_2_code (4 : Nat) (Option.some Jvm.ClassFile.FieldType.long)]
set_option maxRecDepth 65536 in
theorem codes_eq : words1.filter isCode = codes1 := rfl
theorem w_codes : ∀ c ∈ words1.filter isCode, c.before args0 about1 = true := by
  rw [codes_eq]
  intro c hc
  simp only [codes1, List.mem_cons, List.not_mem_nil, or_false] at hc
  rcases hc with rfl | rfl | rfl
  · exact w_c0
  · exact w_c1
  · exact w_c2
set_option maxRecDepth 65536 in
theorem w_t1 : words1.all (fun c => isCode c || c.before args0 about1) = true := by decide +kernel
theorem w_tables : (allAtoms (Jvm.Cond.code x code maxLocals ret :: tables_1)).before args0 about1 = true := by
  rw [allAtoms_all]
  show words1.all (fun c => c.before args0 about1) = true
  refine all_split ?_ w_codes
  rw [w_t1]
set_option maxRecDepth 65536 in
theorem w_case : (Jvm.Cond.and given_1 narrow_1).before args0 about1 = true := by decide +kernel
theorem w_applies : (headSpec (Jvm.Cond.code x code maxLocals ret :: tables_1) room_1).applies x e0.platform about1 = true :=
  (Spec.applies_iff w_frames).mpr ⟨w_running, w_runnable, w_alone, w_named, w_hears, w_ripe, w_room, w_tables⟩
theorem atStart : AtStart classFile x code maxLocals ret World_1 tables_1 room_1 Calls_1 rest_1 Pre_1 launch0 p0 e0 about1 theMethod args0 below0 :=
  ⟨lists_1, trivial, launch0.admits_env _ _ _, launch0.least_env, fairChoices_fair.cas, fairChoices_fair.clock, w_frames, w_args, w_heap, w_applies, trivial, trivial, w_case⟩
end start1
theorem witness_1 : WitnessClaimed_1 := ⟨start1.p0, start1.e0, start1.about1, start1.theMethod, start1.args0, start1.below0, start1.atStart⟩
end Jvm.Pilot.@@N@@
