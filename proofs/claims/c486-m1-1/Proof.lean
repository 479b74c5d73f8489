import JvmDerived
import JvmDerived.Pilot.@@N@@Statement
import JvmDerived.Pilot.@@N@@Code
set_option linter.unusedVariables false
set_option linter.unusedSimpArgs false
namespace Jvm.RoadKit
open Sem ClassFile Op Lib Jvm.Stand Jvm.Free Jvm.LawKit
section New
variable {p : Program} {l : Launch} {e : Env} {R : Room} {s : State} {m : MethodId} {args : Array Value} {below : List Frame} {meth : Method} {c : Code} {T : State} {locs : List Loc} {cells slots : Nat}
theorem retI (X : Stand p l e R s m args below meth c T locs cells slots) (hx : p.tables.exec = Jvm.exec) {pc : Nat} {Ls : Array Slot} {z : Int32} {rest : List Value} (hret : meth.sig.returnType = some .int) (hd : decode c.code pc = .ok (.ireturn, 1)) {fs : List Frame}
    (hl : ∀ (f : JFrame) (acts : List Action), f.method = m → f.locked = none → f.entered = [] → (doReturn e (T.setTop f) acts (some (.int z))).1 = T.setFrames fs) : Steps p.tables e below (T.setTop (mkF m pc Ls (.int z :: rest))) (T.setFrames fs) := by
  have hm' : T.vm.method? m = some meth := X.method'
  have hn : narrow .int (.int z) = .int z := rfl
  show Steps p.tables e below (T.setTop { method := m, pc := pc, locals := Ls, stack := _ :: rest, locked := none }) _
  jvm_step X.here [X.here.top, hx, hd, hm', hret, hn]
  first | (intro acts; rw [hl _ acts rfl rfl rfl]) | rw [hl _ _ rfl rfl rfl]
  exact Steps.refl _
/-- the run goes on from here to an end of which P holds -/
def Go (tb : Tables) (e : Env) (below : List Frame) (T : State) (g : JFrame) (P : State → Prop) : Prop := ∃ U, Steps tb e below (T.setTop g) U ∧ P U
theorem go1 {tb : Tables} {T' : State} {g g' : JFrame} {P : State → Prop} (k : ∀ t, Steps tb e below (T'.setTop g') t → Steps tb e below (T.setTop g) t) (h : Go tb e below T' g' P) : Go tb e below T g P := by
  obtain ⟨U, h1, h2⟩ := h; exact ⟨U, k U h1, h2⟩
theorem goT {tb : Tables} {T' : State} {g g' : JFrame} {P : State → Prop} (k : Steps tb e below (T.setTop g) (T'.setTop g')) (h : Go tb e below T' g' P) : Go tb e below T g P := by
  obtain ⟨U, h1, h2⟩ := h; exact ⟨U, k.trans h1, h2⟩
theorem stp {tb : Tables} {T' t : State} {g g' : JFrame} (k : ∀ t, Steps tb e below (T'.setTop g') t → Steps tb e below (T.setTop g) t) (h : Steps tb e below (T'.setTop g') t) : Steps tb e below (T.setTop g) t := k t h
theorem goB {tb : Tables} {ml : Nat} {g : JFrame} {Qp : Outcome → State → Prop} (q : entryFrame m args ml = g) (h : Go tb e below T g (fun U => ∃ o, U.status = .running ∧ Ended U below o ∧ Qp o U)) :
    ∃ s₂ o, Steps tb e below (T.setTop (entryFrame m args ml)) s₂ ∧ s₂.status = .running ∧ Ended s₂ below o ∧ Qp o s₂ := by
  obtain ⟨U, h1, o, h2, h3, h4⟩ := h; exact ⟨U, o, q ▸ h1, h2, h3, h4⟩
theorem goR (X : Stand p l e R s m args below meth c T locs cells slots) (hlocks : meth.locks = false) {v : Option Value} (hv : meth.sig.returnType = none → v = none) {g : JFrame} {kc ks : Nat} (Q : Option Value → Heap → List Loc → Prop)
    (k : ∀ fs, (∀ (f : JFrame) (acts : List Action), f.method = m → f.locked = none → f.entered = [] → (doReturn e (T.setTop f) acts v).1 = T.setFrames fs) → Steps p.tables e below (T.setTop g) (T.setFrames fs)) (hc : cells ≤ kc) (hs : slots ≤ ks) (hq : Q v T.heap locs) :
    Go p.tables e below T g (fun U => ∃ o, U.status = .running ∧ Ended U below o ∧ ∃ v L, o = .returned v ∧ Q v U.heap L ∧ FrameEnd s o U L kc ks) := by
  obtain ⟨fs, hr, hrun, hended, hW, hsame⟩ := X.leave hv hlocks
  exact ⟨_, k fs hr, _, hrun, hended, _, _, rfl, hq, ⟨_, rfl⟩, hW, hsame.mono hc hs⟩
theorem fitsG {C : String} {u : Value} (h : u.isRef = true) : fits (.object C) u = true := by rcases ref_cases h with rfl | ⟨a, rfl⟩ <;> rfl
theorem selPriv {Z : State} {a0 : Array Value} {y : MethodName} {n : Nat} (hZ : Z.Warmed39 s.vm) (wi : (Cond.instantiable y.cls n).before a0 Z = true) (wp : (Cond.privateMethod y).before a0 Z = true) (wm : (Cond.instanceMethod y).before a0 Z = true) (hy : y.cls ≠ "java/lang/invoke/MethodHandle" ∧ y.cls ≠ "java/lang/invoke/VarHandle") : (Cond.selects y.cls y y).before args s = true := by
  obtain ⟨c, k, h1, h2, -, h4, -⟩ := Cond.instantiable_spec (show (Cond.instantiable y.cls n).before args s = true from mv hZ wi)
  have h5 : k.isInterface = false := by
    cases hq : k.isInterface
    · rfl
    · rw [hq] at h4; simp at h4
  exact selects_self_of_private h1 h2 h5 (Cond.privateMethod_at (mvP hZ wp (args := #[]))) (mv hZ wm) hy
theorem nsRoot {Z : State} {a0 : Array Value} {O K : String} {n : Nat} (w : (Cond.noSuperclass O).before a0 Z = true) (wk : (Cond.instantiable K n).before a0 Z = true) (hn : O ≠ K) : NS Z O K := by
  obtain ⟨c, k, h1, h2, h3, -⟩ := Cond.noSuperclass_spec w
  obtain ⟨t, kt, g1, -⟩ := Cond.instantiable_spec wk
  have ne := ids_ne h1 g1 hn
  exact ⟨c, t, h1, g1, fun fuel => by cases fuel <;> simp [Vm.isSubclassAux, ne, h2, h3]⟩
theorem nsNo {Z : State} {a0 : Array Value} {C S K : String} {n : Nat} (w : (Cond.superclass C S).before a0 Z = true) (wk : (Cond.instantiable K n).before a0 Z = true) (N : NS Z C K) (hn : C ≠ K) : ∃ c t, Z.vm.findClass C = some c ∧ Z.vm.findClass K = some t ∧ Z.vm.assignable c t = false := by
  obtain ⟨c, t, h0, g0, n3⟩ := N
  obtain ⟨pp, k, kp, -, h2, -, -, h5, -, -⟩ := Cond.superclass_spec h0 w
  obtain ⟨t', kt, g1, g2, g3, g4, -⟩ := Cond.instantiable_spec wk
  cases g0.symm.trans g1
  have ne := ids_ne h0 g0 hn
  have g5 : kt.isInterface = false := by
    cases hq : kt.isInterface
    · rfl
    · rw [hq] at g4; simp at g4
  refine ⟨c, t, h0, g0, ?_⟩
  show Z.vm.assignableAux (255 + 1) c t = false
  simp [Vm.assignableAux, ne, h2, g2, h5, g3, g5, Vm.isSubclass, n3]
theorem lenS {Z : State} {t : Term} {a : Addr} {cl : Cell} {n : Int32} {ty : FieldType} (ev : t.eval args Z none [] Z = some (.ref a)) (A : Arr Z Z.heap a cl ty) (h : (Term.length t).eval args Z none [] Z = some (.int n)) :
    cl.slots.size < 2 ^ 31 ∧ cl.slots.size.toInt32 = n ∧ cl.slots.size = n.toNatClampNeg ∧ ¬ n < 0 := by
  have ha := A.fin (Vm.Alike.refl _)
  by_cases q : cl.slots.size < 2 ^ 31
  · have e := len_f ev ha q
    rw [h] at e
    have e2 : n = cl.slots.size.toInt32 := by injection e with e; injection e
    have e3 := len_toInt q
    refine ⟨q, e2.symm, ?_, ?_⟩
    · rw [e2]; simp only [Int32.toNatClampNeg, e3]; rfl
    · rw [e2, Int32.lt_iff_toInt_lt, e3]; show ¬ (cl.slots.size : Int) < 0; omega
  · exfalso
    have q' : ¬ cl.slots.size < 2147483648 := q
    simp [Term.eval, ev, ha, q'] at h
end New
end Jvm.RoadKit
namespace Jvm.Pilot.@@N@@
open Jvm Jvm.ClassFile Sem Op Lib Jvm.Free Jvm.Stand Jvm.LawKit Jvm.RoadKit Bundle Jvm.Pilot.@@N@@.Jvm.D
theorem d1_0 : decode prog_46_method_9_code 0 = .ok (.iload_n 0, 1) := by decide +kernel
theorem d1_1 : decode prog_46_method_9_code 1 = .ok (.bipush 10, 2) := by decide +kernel
theorem d1_3 : decode prog_46_method_9_code 3 = .ok (.if_icmp .eq 42, 3) := by decide +kernel
theorem d1_6 : decode prog_46_method_9_code 6 = .ok (.iload_n 0, 1) := by decide +kernel
theorem d1_7 : decode prog_46_method_9_code 7 = .ok (.bipush 11, 2) := by decide +kernel
theorem d1_9 : decode prog_46_method_9_code 9 = .ok (.if_icmp .eq 36, 3) := by decide +kernel
theorem d1_12 : decode prog_46_method_9_code 12 = .ok (.iload_n 0, 1) := by decide +kernel
theorem d1_13 : decode prog_46_method_9_code 13 = .ok (.bipush 12, 2) := by decide +kernel
theorem d1_15 : decode prog_46_method_9_code 15 = .ok (.if_icmp .eq 30, 3) := by decide +kernel
theorem d1_18 : decode prog_46_method_9_code 18 = .ok (.iload_n 0, 1) := by decide +kernel
theorem d1_19 : decode prog_46_method_9_code 19 = .ok (.bipush 13, 2) := by decide +kernel
theorem d1_21 : decode prog_46_method_9_code 21 = .ok (.if_icmp .eq 24, 3) := by decide +kernel
theorem d1_24 : decode prog_46_method_9_code 24 = .ok (.iload_n 0, 1) := by decide +kernel
theorem d1_25 : decode prog_46_method_9_code 25 = .ok (.sipush 133, 3) := by decide +kernel
theorem d1_28 : decode prog_46_method_9_code 28 = .ok (.if_icmp .eq 17, 3) := by decide +kernel
theorem d1_31 : decode prog_46_method_9_code 31 = .ok (.iload_n 0, 1) := by decide +kernel
theorem d1_32 : decode prog_46_method_9_code 32 = .ok (.sipush 8232, 3) := by decide +kernel
theorem d1_35 : decode prog_46_method_9_code 35 = .ok (.if_icmp .eq 10, 3) := by decide +kernel
theorem d1_38 : decode prog_46_method_9_code 38 = .ok (.iload_n 0, 1) := by decide +kernel
theorem d1_39 : decode prog_46_method_9_code 39 = .ok (.sipush 8233, 3) := by decide +kernel
theorem d1_42 : decode prog_46_method_9_code 42 = .ok (.if_icmp .ne 7, 3) := by decide +kernel
theorem d1_45 : decode prog_46_method_9_code 45 = .ok (.iconst 1, 1) := by decide +kernel
theorem d1_46 : decode prog_46_method_9_code 46 = .ok (.goto 4, 3) := by decide +kernel
theorem d1_49 : decode prog_46_method_9_code 49 = .ok (.iconst 0, 1) := by decide +kernel
theorem d1_50 : decode prog_46_method_9_code 50 = .ok (.ireturn, 1) := by decide +kernel
theorem pn_1 : plainName "com/example/isolatrix/isolatrix/TextCursor" = true := by first | (simp [plainName, overriddenIn]; done) | decide +kernel
theorem ef_1 (m : MethodId) (p1 : Int32) : entryFrame m #[(.int p1)] 1 = mkF m 0 #[.val (.int p1)] [] := by first | (simp [entryFrame, mkF, argsToLocals, Value.category]; done) | rfl
def own_1 (p1 : Int32) : Int32 :=
  if p1 = (10 : Int32) then
    (1 : Int32)
  else
    if p1 = (11 : Int32) then
      (1 : Int32)
    else
      if p1 = (12 : Int32) then
        (1 : Int32)
      else
        if p1 = (13 : Int32) then
          (1 : Int32)
        else
          if p1 = (133 : Int32) then
            (1 : Int32)
          else
            if p1 = (8232 : Int32) then
              (1 : Int32)
            else
              if p1 = (8233 : Int32) then
                (1 : Int32)
              else
                (0 : Int32)
def Q1 (Z : State) (p1 : Int32) (h0 : Heap) (n0 : Nat) (v : Option Value) (h : Heap) (L : List Loc) : Prop := v = some (.int (own_1 p1)) ∧ Fr n0 L ∧ h = h0
set_option maxRecDepth 65536 in
set_option maxHeartbeats 40000000 in
theorem rm1 (l : Launch) (Z : State) (a0 : Array Value) (hw : ∀ d ∈ tables_1, d.before a0 Z = true) (ws : List Jvm.Cond) (p1 : Int32) (h0 : Heap) (n0 : Nat) (Z0 : n0 ≤ h0.size) :
    MetFree l (⟨"com/example/isolatrix/isolatrix/TextCursor", "isLineBreak", "(I)Z"⟩ : MethodName) (head1 (Jvm.Cond.code (⟨"com/example/isolatrix/isolatrix/TextCursor", "isLineBreak", "(I)Z"⟩ : MethodName) prog_46_method_9_code 1 (some .boolean) :: ws) ({ frames := 0, cells := 0, slots := 0, locals := 0 } : Room)) (fun a U => a = #[(.int p1)] ∧ Z.Warmed39 U.vm ∧ U.heap = h0) (fun _ _ _ _ _ => True) (fun _ U o U' => ∃ v L, o = .returned v ∧ Q1 Z p1 h0 n0 v U'.heap L ∧ FrameEnd U o U' L ({ frames := 0, cells := 0, slots := 0, locals := 0 } : Room).cells ({ frames := 0, cells := 0, slots := 0, locals := 0 } : Room).slots) := by
  refine MetFree.of_bodySF (plainFor_of_name pn_1) hisR ?_
  intro p e s m args below meth c s₁ Bd hml0 hP hK
  obtain ⟨rfl, hZ, hh⟩ := hP
  have hx := Bd.exec
  have hby := Bd.bytes
  have hml : c.maxLocals = 1 := hml0
  have hown : s.vm.findClass "com/example/isolatrix/isolatrix/TextCursor" = some m.cls := findClass_of_methodNamed Bd.named
  have hnm := (name_of_methodNamed Bd.named Bd.method).1
  have X0 : Stand p l e ({ frames := 0, cells := 0, slots := 0, locals := 0 } : Room) s m #[(.int p1)] below meth c s₁ [] 0 0 := Stand.of_body Bd
  have e0 : s₁.heap = h0 := by rw [← hh, Bd.state]; rfl
  have N0 := Fr.nil n0
  refine goB (ef_1 m p1) ?_
  show Go p.tables e below s₁ (mkF m 0 #[.val (.int p1)] []) _
  refine go1 (fun _ => XS.iloadN X0.here hx rfl (hb hby d1_0) rfl) ?_
  show Go p.tables e below s₁ (mkF m 1 #[.val (.int p1)] [(.int p1)]) _
  refine go1 (fun _ => XS.bipush X0.here hx rfl (hb hby d1_1)) ?_
  show Go p.tables e below s₁ (mkF m 3 #[.val (.int p1)] [(.int (10 : Int32)), (.int p1)]) _
  by_cases hc1 : p1 = (10 : Int32)
  · skip
    refine go1 (fun _ => XS.icmpYes X0.here hx rfl (pc0 := 3) (pc' := 45) rfl (hb hby d1_3) rfl (teq hc1).1 (by decide) (by decide)) ?_
    show Go p.tables e below s₁ (mkF m 45 #[.val (.int p1)] []) _
    refine go1 (fun _ => XS.iconst X0.here hx rfl (hb hby d1_45)) ?_
    show Go p.tables e below s₁ (mkF m 46 #[.val (.int p1)] [(.int (1 : Int32))]) _
    refine go1 (fun _ => XS.goto X0.here hx rfl (pc0 := 46) (pc' := 50) rfl (hb hby d1_46) (by decide) (by decide)) ?_
    show Go p.tables e below s₁ (mkF m 50 #[.val (.int p1)] [(.int (1 : Int32))]) _
    refine goR X0 (BodyLoose.notSynchronized Bd) (v := (some (.int (1 : Int32)))) (fun h => by rw [Bd.returns] at h; cases h) (Q1 Z p1 h0 n0) (fun fs hr => retN X0 hx (t := .boolean) Bd.returns (by simp) (hb hby d1_50) hr) (by decide) (by decide) ?_
    show Q1 Z p1 h0 n0 _ s₁.heap _
    rw [e0]
    exact ⟨(by rw [own_1, if_pos hc1]), N0, rfl⟩
  · skip
    refine go1 (fun _ => XS.icmpNo X0.here hx rfl (hb hby d1_3) rfl (feq hc1).1) ?_
    show Go p.tables e below s₁ (mkF m 6 #[.val (.int p1)] []) _
    refine go1 (fun _ => XS.iloadN X0.here hx rfl (hb hby d1_6) rfl) ?_
    show Go p.tables e below s₁ (mkF m 7 #[.val (.int p1)] [(.int p1)]) _
    refine go1 (fun _ => XS.bipush X0.here hx rfl (hb hby d1_7)) ?_
    show Go p.tables e below s₁ (mkF m 9 #[.val (.int p1)] [(.int (11 : Int32)), (.int p1)]) _
    by_cases hc2 : p1 = (11 : Int32)
    · skip
      refine go1 (fun _ => XS.icmpYes X0.here hx rfl (pc0 := 9) (pc' := 45) rfl (hb hby d1_9) rfl (teq hc2).1 (by decide) (by decide)) ?_
      show Go p.tables e below s₁ (mkF m 45 #[.val (.int p1)] []) _
      refine go1 (fun _ => XS.iconst X0.here hx rfl (hb hby d1_45)) ?_
      show Go p.tables e below s₁ (mkF m 46 #[.val (.int p1)] [(.int (1 : Int32))]) _
      refine go1 (fun _ => XS.goto X0.here hx rfl (pc0 := 46) (pc' := 50) rfl (hb hby d1_46) (by decide) (by decide)) ?_
      show Go p.tables e below s₁ (mkF m 50 #[.val (.int p1)] [(.int (1 : Int32))]) _
      refine goR X0 (BodyLoose.notSynchronized Bd) (v := (some (.int (1 : Int32)))) (fun h => by rw [Bd.returns] at h; cases h) (Q1 Z p1 h0 n0) (fun fs hr => retN X0 hx (t := .boolean) Bd.returns (by simp) (hb hby d1_50) hr) (by decide) (by decide) ?_
      show Q1 Z p1 h0 n0 _ s₁.heap _
      rw [e0]
      exact ⟨(by rw [own_1, if_neg hc1, if_pos hc2]), N0, rfl⟩
    · skip
      refine go1 (fun _ => XS.icmpNo X0.here hx rfl (hb hby d1_9) rfl (feq hc2).1) ?_
      show Go p.tables e below s₁ (mkF m 12 #[.val (.int p1)] []) _
      refine go1 (fun _ => XS.iloadN X0.here hx rfl (hb hby d1_12) rfl) ?_
      show Go p.tables e below s₁ (mkF m 13 #[.val (.int p1)] [(.int p1)]) _
      refine go1 (fun _ => XS.bipush X0.here hx rfl (hb hby d1_13)) ?_
      show Go p.tables e below s₁ (mkF m 15 #[.val (.int p1)] [(.int (12 : Int32)), (.int p1)]) _
      by_cases hc3 : p1 = (12 : Int32)
      · skip
        refine go1 (fun _ => XS.icmpYes X0.here hx rfl (pc0 := 15) (pc' := 45) rfl (hb hby d1_15) rfl (teq hc3).1 (by decide) (by decide)) ?_
        show Go p.tables e below s₁ (mkF m 45 #[.val (.int p1)] []) _
        refine go1 (fun _ => XS.iconst X0.here hx rfl (hb hby d1_45)) ?_
        show Go p.tables e below s₁ (mkF m 46 #[.val (.int p1)] [(.int (1 : Int32))]) _
        refine go1 (fun _ => XS.goto X0.here hx rfl (pc0 := 46) (pc' := 50) rfl (hb hby d1_46) (by decide) (by decide)) ?_
        show Go p.tables e below s₁ (mkF m 50 #[.val (.int p1)] [(.int (1 : Int32))]) _
        refine goR X0 (BodyLoose.notSynchronized Bd) (v := (some (.int (1 : Int32)))) (fun h => by rw [Bd.returns] at h; cases h) (Q1 Z p1 h0 n0) (fun fs hr => retN X0 hx (t := .boolean) Bd.returns (by simp) (hb hby d1_50) hr) (by decide) (by decide) ?_
        show Q1 Z p1 h0 n0 _ s₁.heap _
        rw [e0]
        exact ⟨(by rw [own_1, if_neg hc1, if_neg hc2, if_pos hc3]), N0, rfl⟩
      · skip
        refine go1 (fun _ => XS.icmpNo X0.here hx rfl (hb hby d1_15) rfl (feq hc3).1) ?_
        show Go p.tables e below s₁ (mkF m 18 #[.val (.int p1)] []) _
        refine go1 (fun _ => XS.iloadN X0.here hx rfl (hb hby d1_18) rfl) ?_
        show Go p.tables e below s₁ (mkF m 19 #[.val (.int p1)] [(.int p1)]) _
        refine go1 (fun _ => XS.bipush X0.here hx rfl (hb hby d1_19)) ?_
        show Go p.tables e below s₁ (mkF m 21 #[.val (.int p1)] [(.int (13 : Int32)), (.int p1)]) _
        by_cases hc4 : p1 = (13 : Int32)
        · skip
          refine go1 (fun _ => XS.icmpYes X0.here hx rfl (pc0 := 21) (pc' := 45) rfl (hb hby d1_21) rfl (teq hc4).1 (by decide) (by decide)) ?_
          show Go p.tables e below s₁ (mkF m 45 #[.val (.int p1)] []) _
          refine go1 (fun _ => XS.iconst X0.here hx rfl (hb hby d1_45)) ?_
          show Go p.tables e below s₁ (mkF m 46 #[.val (.int p1)] [(.int (1 : Int32))]) _
          refine go1 (fun _ => XS.goto X0.here hx rfl (pc0 := 46) (pc' := 50) rfl (hb hby d1_46) (by decide) (by decide)) ?_
          show Go p.tables e below s₁ (mkF m 50 #[.val (.int p1)] [(.int (1 : Int32))]) _
          refine goR X0 (BodyLoose.notSynchronized Bd) (v := (some (.int (1 : Int32)))) (fun h => by rw [Bd.returns] at h; cases h) (Q1 Z p1 h0 n0) (fun fs hr => retN X0 hx (t := .boolean) Bd.returns (by simp) (hb hby d1_50) hr) (by decide) (by decide) ?_
          show Q1 Z p1 h0 n0 _ s₁.heap _
          rw [e0]
          exact ⟨(by rw [own_1, if_neg hc1, if_neg hc2, if_neg hc3, if_pos hc4]), N0, rfl⟩
        · skip
          refine go1 (fun _ => XS.icmpNo X0.here hx rfl (hb hby d1_21) rfl (feq hc4).1) ?_
          show Go p.tables e below s₁ (mkF m 24 #[.val (.int p1)] []) _
          refine go1 (fun _ => XS.iloadN X0.here hx rfl (hb hby d1_24) rfl) ?_
          show Go p.tables e below s₁ (mkF m 25 #[.val (.int p1)] [(.int p1)]) _
          refine go1 (fun _ => XS.sipush X0.here hx rfl (hb hby d1_25)) ?_
          show Go p.tables e below s₁ (mkF m 28 #[.val (.int p1)] [(.int (133 : Int32)), (.int p1)]) _
          by_cases hc5 : p1 = (133 : Int32)
          · skip
            refine go1 (fun _ => XS.icmpYes X0.here hx rfl (pc0 := 28) (pc' := 45) rfl (hb hby d1_28) rfl (teq hc5).1 (by decide) (by decide)) ?_
            show Go p.tables e below s₁ (mkF m 45 #[.val (.int p1)] []) _
            refine go1 (fun _ => XS.iconst X0.here hx rfl (hb hby d1_45)) ?_
            show Go p.tables e below s₁ (mkF m 46 #[.val (.int p1)] [(.int (1 : Int32))]) _
            refine go1 (fun _ => XS.goto X0.here hx rfl (pc0 := 46) (pc' := 50) rfl (hb hby d1_46) (by decide) (by decide)) ?_
            show Go p.tables e below s₁ (mkF m 50 #[.val (.int p1)] [(.int (1 : Int32))]) _
            refine goR X0 (BodyLoose.notSynchronized Bd) (v := (some (.int (1 : Int32)))) (fun h => by rw [Bd.returns] at h; cases h) (Q1 Z p1 h0 n0) (fun fs hr => retN X0 hx (t := .boolean) Bd.returns (by simp) (hb hby d1_50) hr) (by decide) (by decide) ?_
            show Q1 Z p1 h0 n0 _ s₁.heap _
            rw [e0]
            exact ⟨(by rw [own_1, if_neg hc1, if_neg hc2, if_neg hc3, if_neg hc4, if_pos hc5]), N0, rfl⟩
          · skip
            refine go1 (fun _ => XS.icmpNo X0.here hx rfl (hb hby d1_28) rfl (feq hc5).1) ?_
            show Go p.tables e below s₁ (mkF m 31 #[.val (.int p1)] []) _
            refine go1 (fun _ => XS.iloadN X0.here hx rfl (hb hby d1_31) rfl) ?_
            show Go p.tables e below s₁ (mkF m 32 #[.val (.int p1)] [(.int p1)]) _
            refine go1 (fun _ => XS.sipush X0.here hx rfl (hb hby d1_32)) ?_
            show Go p.tables e below s₁ (mkF m 35 #[.val (.int p1)] [(.int (8232 : Int32)), (.int p1)]) _
            by_cases hc6 : p1 = (8232 : Int32)
            · skip
              refine go1 (fun _ => XS.icmpYes X0.here hx rfl (pc0 := 35) (pc' := 45) rfl (hb hby d1_35) rfl (teq hc6).1 (by decide) (by decide)) ?_
              show Go p.tables e below s₁ (mkF m 45 #[.val (.int p1)] []) _
              refine go1 (fun _ => XS.iconst X0.here hx rfl (hb hby d1_45)) ?_
              show Go p.tables e below s₁ (mkF m 46 #[.val (.int p1)] [(.int (1 : Int32))]) _
              refine go1 (fun _ => XS.goto X0.here hx rfl (pc0 := 46) (pc' := 50) rfl (hb hby d1_46) (by decide) (by decide)) ?_
              show Go p.tables e below s₁ (mkF m 50 #[.val (.int p1)] [(.int (1 : Int32))]) _
              refine goR X0 (BodyLoose.notSynchronized Bd) (v := (some (.int (1 : Int32)))) (fun h => by rw [Bd.returns] at h; cases h) (Q1 Z p1 h0 n0) (fun fs hr => retN X0 hx (t := .boolean) Bd.returns (by simp) (hb hby d1_50) hr) (by decide) (by decide) ?_
              show Q1 Z p1 h0 n0 _ s₁.heap _
              rw [e0]
              exact ⟨(by rw [own_1, if_neg hc1, if_neg hc2, if_neg hc3, if_neg hc4, if_neg hc5, if_pos hc6]), N0, rfl⟩
            · skip
              refine go1 (fun _ => XS.icmpNo X0.here hx rfl (hb hby d1_35) rfl (feq hc6).1) ?_
              show Go p.tables e below s₁ (mkF m 38 #[.val (.int p1)] []) _
              refine go1 (fun _ => XS.iloadN X0.here hx rfl (hb hby d1_38) rfl) ?_
              show Go p.tables e below s₁ (mkF m 39 #[.val (.int p1)] [(.int p1)]) _
              refine go1 (fun _ => XS.sipush X0.here hx rfl (hb hby d1_39)) ?_
              show Go p.tables e below s₁ (mkF m 42 #[.val (.int p1)] [(.int (8233 : Int32)), (.int p1)]) _
              by_cases hc7 : p1 = (8233 : Int32)
              · skip
                refine go1 (fun _ => XS.icmpNo X0.here hx rfl (hb hby d1_42) rfl (teq hc7).2) ?_
                show Go p.tables e below s₁ (mkF m 45 #[.val (.int p1)] []) _
                refine go1 (fun _ => XS.iconst X0.here hx rfl (hb hby d1_45)) ?_
                show Go p.tables e below s₁ (mkF m 46 #[.val (.int p1)] [(.int (1 : Int32))]) _
                refine go1 (fun _ => XS.goto X0.here hx rfl (pc0 := 46) (pc' := 50) rfl (hb hby d1_46) (by decide) (by decide)) ?_
                show Go p.tables e below s₁ (mkF m 50 #[.val (.int p1)] [(.int (1 : Int32))]) _
                refine goR X0 (BodyLoose.notSynchronized Bd) (v := (some (.int (1 : Int32)))) (fun h => by rw [Bd.returns] at h; cases h) (Q1 Z p1 h0 n0) (fun fs hr => retN X0 hx (t := .boolean) Bd.returns (by simp) (hb hby d1_50) hr) (by decide) (by decide) ?_
                show Q1 Z p1 h0 n0 _ s₁.heap _
                rw [e0]
                exact ⟨(by rw [own_1, if_neg hc1, if_neg hc2, if_neg hc3, if_neg hc4, if_neg hc5, if_neg hc6, if_pos hc7]), N0, rfl⟩
              · skip
                refine go1 (fun _ => XS.icmpYes X0.here hx rfl (pc0 := 42) (pc' := 49) rfl (hb hby d1_42) rfl (feq hc7).2 (by decide) (by decide)) ?_
                show Go p.tables e below s₁ (mkF m 49 #[.val (.int p1)] []) _
                refine go1 (fun _ => XS.iconst X0.here hx rfl (hb hby d1_49)) ?_
                show Go p.tables e below s₁ (mkF m 50 #[.val (.int p1)] [(.int (0 : Int32))]) _
                refine goR X0 (BodyLoose.notSynchronized Bd) (v := (some (.int (0 : Int32)))) (fun h => by rw [Bd.returns] at h; cases h) (Q1 Z p1 h0 n0) (fun fs hr => retN X0 hx (t := .boolean) Bd.returns (by simp) (hb hby d1_50) hr) (by decide) (by decide) ?_
                show Q1 Z p1 h0 n0 _ s₁.heap _
                rw [e0]
                exact ⟨(by rw [own_1, if_neg hc1, if_neg hc2, if_neg hc3, if_neg hc4, if_neg hc5, if_neg hc6, if_neg hc7]), N0, rfl⟩
theorem pn_0 : plainName "com/example/isolatrix/isolatrix/TextCursorIsLineBreakPinLaw" = true := by first | (simp [plainName, overriddenIn]; done) | decide +kernel
theorem pd0_0 : parseMethodDescriptor "(I)Z" = some ⟨[.int], some .boolean⟩ := by decide +kernel
theorem ef_0 (m : MethodId) (p1 : Int32) (p2 : Int32) : entryFrame m #[(.int p1), (.int p2)] maxLocals = mkF m 0 #[.val (.int p1), .val (.int p2), .unset, .unset, .unset] [] := by first | (simp [entryFrame, mkF, argsToLocals, Value.category, maxLocals]; done) | rfl
def own_0 (p1 : Int32) (p2 : Int32) : Int32 :=
  if (p2 &&& (1 : Int32)) = (0 : Int32) then
    if (((p2.toUInt32 >>> ((1 : Int32) &&& 31).toUInt32).toInt32) % (3 : Int32)) = (0 : Int32) then
      if ((8 : Int32) + (p1 % (8 : Int32))) < (10 : Int32) then
        if ((8 : Int32) + (p1 % (8 : Int32))) = (133 : Int32) then
          if (own_1 ((8 : Int32) + (p1 % (8 : Int32)))) = (1 : Int32) then
            (1 : Int32)
          else
            (0 : Int32)
        else
          if ((8 : Int32) + (p1 % (8 : Int32))) < (8232 : Int32) then
            if (own_1 ((8 : Int32) + (p1 % (8 : Int32)))) = (0 : Int32) then
              (1 : Int32)
            else
              (0 : Int32)
          else
            if (8233 : Int32) < ((8 : Int32) + (p1 % (8 : Int32))) then
              if (own_1 ((8 : Int32) + (p1 % (8 : Int32)))) = (0 : Int32) then
                (1 : Int32)
              else
                (0 : Int32)
            else
              if (own_1 ((8 : Int32) + (p1 % (8 : Int32)))) = (1 : Int32) then
                (1 : Int32)
              else
                (0 : Int32)
      else
        if (13 : Int32) < ((8 : Int32) + (p1 % (8 : Int32))) then
          if ((8 : Int32) + (p1 % (8 : Int32))) = (133 : Int32) then
            if (own_1 ((8 : Int32) + (p1 % (8 : Int32)))) = (1 : Int32) then
              (1 : Int32)
            else
              (0 : Int32)
          else
            if ((8 : Int32) + (p1 % (8 : Int32))) < (8232 : Int32) then
              if (own_1 ((8 : Int32) + (p1 % (8 : Int32)))) = (0 : Int32) then
                (1 : Int32)
              else
                (0 : Int32)
            else
              if (8233 : Int32) < ((8 : Int32) + (p1 % (8 : Int32))) then
                if (own_1 ((8 : Int32) + (p1 % (8 : Int32)))) = (0 : Int32) then
                  (1 : Int32)
                else
                  (0 : Int32)
              else
                if (own_1 ((8 : Int32) + (p1 % (8 : Int32)))) = (1 : Int32) then
                  (1 : Int32)
                else
                  (0 : Int32)
        else
          if (own_1 ((8 : Int32) + (p1 % (8 : Int32)))) = (1 : Int32) then
            (1 : Int32)
          else
            (0 : Int32)
    else
      if (((p2.toUInt32 >>> ((1 : Int32) &&& 31).toUInt32).toInt32) % (3 : Int32)) = (1 : Int32) then
        if ((131 : Int32) + (p1 % (8 : Int32))) < (10 : Int32) then
          if ((131 : Int32) + (p1 % (8 : Int32))) = (133 : Int32) then
            if (own_1 ((131 : Int32) + (p1 % (8 : Int32)))) = (1 : Int32) then
              (1 : Int32)
            else
              (0 : Int32)
          else
            if ((131 : Int32) + (p1 % (8 : Int32))) < (8232 : Int32) then
              if (own_1 ((131 : Int32) + (p1 % (8 : Int32)))) = (0 : Int32) then
                (1 : Int32)
              else
                (0 : Int32)
            else
              if (8233 : Int32) < ((131 : Int32) + (p1 % (8 : Int32))) then
                if (own_1 ((131 : Int32) + (p1 % (8 : Int32)))) = (0 : Int32) then
                  (1 : Int32)
                else
                  (0 : Int32)
              else
                if (own_1 ((131 : Int32) + (p1 % (8 : Int32)))) = (1 : Int32) then
                  (1 : Int32)
                else
                  (0 : Int32)
        else
          if (13 : Int32) < ((131 : Int32) + (p1 % (8 : Int32))) then
            if ((131 : Int32) + (p1 % (8 : Int32))) = (133 : Int32) then
              if (own_1 ((131 : Int32) + (p1 % (8 : Int32)))) = (1 : Int32) then
                (1 : Int32)
              else
                (0 : Int32)
            else
              if ((131 : Int32) + (p1 % (8 : Int32))) < (8232 : Int32) then
                if (own_1 ((131 : Int32) + (p1 % (8 : Int32)))) = (0 : Int32) then
                  (1 : Int32)
                else
                  (0 : Int32)
              else
                if (8233 : Int32) < ((131 : Int32) + (p1 % (8 : Int32))) then
                  if (own_1 ((131 : Int32) + (p1 % (8 : Int32)))) = (0 : Int32) then
                    (1 : Int32)
                  else
                    (0 : Int32)
                else
                  if (own_1 ((131 : Int32) + (p1 % (8 : Int32)))) = (1 : Int32) then
                    (1 : Int32)
                  else
                    (0 : Int32)
          else
            if (own_1 ((131 : Int32) + (p1 % (8 : Int32)))) = (1 : Int32) then
              (1 : Int32)
            else
              (0 : Int32)
      else
        if ((8230 : Int32) + (p1 % (8 : Int32))) < (10 : Int32) then
          if ((8230 : Int32) + (p1 % (8 : Int32))) = (133 : Int32) then
            if (own_1 ((8230 : Int32) + (p1 % (8 : Int32)))) = (1 : Int32) then
              (1 : Int32)
            else
              (0 : Int32)
          else
            if ((8230 : Int32) + (p1 % (8 : Int32))) < (8232 : Int32) then
              if (own_1 ((8230 : Int32) + (p1 % (8 : Int32)))) = (0 : Int32) then
                (1 : Int32)
              else
                (0 : Int32)
            else
              if (8233 : Int32) < ((8230 : Int32) + (p1 % (8 : Int32))) then
                if (own_1 ((8230 : Int32) + (p1 % (8 : Int32)))) = (0 : Int32) then
                  (1 : Int32)
                else
                  (0 : Int32)
              else
                if (own_1 ((8230 : Int32) + (p1 % (8 : Int32)))) = (1 : Int32) then
                  (1 : Int32)
                else
                  (0 : Int32)
        else
          if (13 : Int32) < ((8230 : Int32) + (p1 % (8 : Int32))) then
            if ((8230 : Int32) + (p1 % (8 : Int32))) = (133 : Int32) then
              if (own_1 ((8230 : Int32) + (p1 % (8 : Int32)))) = (1 : Int32) then
                (1 : Int32)
              else
                (0 : Int32)
            else
              if ((8230 : Int32) + (p1 % (8 : Int32))) < (8232 : Int32) then
                if (own_1 ((8230 : Int32) + (p1 % (8 : Int32)))) = (0 : Int32) then
                  (1 : Int32)
                else
                  (0 : Int32)
              else
                if (8233 : Int32) < ((8230 : Int32) + (p1 % (8 : Int32))) then
                  if (own_1 ((8230 : Int32) + (p1 % (8 : Int32)))) = (0 : Int32) then
                    (1 : Int32)
                  else
                    (0 : Int32)
                else
                  if (own_1 ((8230 : Int32) + (p1 % (8 : Int32)))) = (1 : Int32) then
                    (1 : Int32)
                  else
                    (0 : Int32)
          else
            if (own_1 ((8230 : Int32) + (p1 % (8 : Int32)))) = (1 : Int32) then
              (1 : Int32)
            else
              (0 : Int32)
  else
    if p1 < (10 : Int32) then
      if p1 = (133 : Int32) then
        if (own_1 p1) = (1 : Int32) then
          (1 : Int32)
        else
          (0 : Int32)
      else
        if p1 < (8232 : Int32) then
          if (own_1 p1) = (0 : Int32) then
            (1 : Int32)
          else
            (0 : Int32)
        else
          if (8233 : Int32) < p1 then
            if (own_1 p1) = (0 : Int32) then
              (1 : Int32)
            else
              (0 : Int32)
          else
            if (own_1 p1) = (1 : Int32) then
              (1 : Int32)
            else
              (0 : Int32)
    else
      if (13 : Int32) < p1 then
        if p1 = (133 : Int32) then
          if (own_1 p1) = (1 : Int32) then
            (1 : Int32)
          else
            (0 : Int32)
        else
          if p1 < (8232 : Int32) then
            if (own_1 p1) = (0 : Int32) then
              (1 : Int32)
            else
              (0 : Int32)
          else
            if (8233 : Int32) < p1 then
              if (own_1 p1) = (0 : Int32) then
                (1 : Int32)
              else
                (0 : Int32)
            else
              if (own_1 p1) = (1 : Int32) then
                (1 : Int32)
              else
                (0 : Int32)
      else
        if (own_1 p1) = (1 : Int32) then
          (1 : Int32)
        else
          (0 : Int32)
def Q0 (Z : State) (p1 : Int32) (p2 : Int32) (h0 : Heap) (n0 : Nat) (v : Option Value) (h : Heap) (L : List Loc) : Prop := v = some (.int (own_0 p1 p2)) ∧ Fr n0 L
set_option maxRecDepth 65536 in
set_option maxHeartbeats 40000000 in
theorem rm0 (l : Launch) (Z : State) (a0 : Array Value) (hw : ∀ d ∈ tables_1, d.before a0 Z = true) (ws : List Jvm.Cond) (p1 : Int32) (p2 : Int32) (h0 : Heap) (n0 : Nat) (Z0 : n0 ≤ h0.size) (O0 : Old Z n0 h0) :
    MetFree l x (head1 (Jvm.Cond.code x code maxLocals ret :: ws) room_1) (fun a U => a = #[(.int p1), (.int p2)] ∧ Z.Warmed39 U.vm ∧ U.heap = h0) (fun _ _ _ _ _ => True) (fun _ U o U' => ∃ v L, o = .returned v ∧ Q0 Z p1 p2 h0 n0 v U'.heap L ∧ FrameEnd U o U' L 0 0) := by
  refine MetFree.of_bodySF (plainFor_of_name pn_0) hisR ?_
  intro p e s m args below meth c s₁ Bd hml0 hP hK
  obtain ⟨rfl, hZ, hh⟩ := hP
  have hx := Bd.exec
  have hby := Bd.bytes
  have hml : c.maxLocals = 5 := hml0
  have hown : s.vm.findClass "com/example/isolatrix/isolatrix/TextCursorIsLineBreakPinLaw" = some m.cls := findClass_of_methodNamed Bd.named
  have hnm := (name_of_methodNamed Bd.named Bd.method).1
  have X0 : Stand p l e room_1 s m #[(.int p1), (.int p2)] below meth c s₁ [] 0 0 := Stand.of_body Bd
  have e0 : s₁.heap = h0 := by rw [← hh, Bd.state]; rfl
  have N0 := Fr.nil n0
  refine goB (ef_0 m p1 p2) ?_
  show Go p.tables e below s₁ (mkF m 0 #[.val (.int p1), .val (.int p2), .unset, .unset, .unset] []) _
  refine go1 (fun _ => XS.iloadN X0.here hx rfl (hb hby at_0) rfl) ?_
  show Go p.tables e below s₁ (mkF m 1 #[.val (.int p1), .val (.int p2), .unset, .unset, .unset] [(.int p2)]) _
  refine go1 (fun _ => XS.iconst X0.here hx rfl (hb hby at_1)) ?_
  show Go p.tables e below s₁ (mkF m 2 #[.val (.int p1), .val (.int p2), .unset, .unset, .unset] [(.int (1 : Int32)), (.int p2)]) _
  refine go1 (fun _ => XS.iand X0.here hx rfl (hb hby at_2) rfl) ?_
  show Go p.tables e below s₁ (mkF m 3 #[.val (.int p1), .val (.int p2), .unset, .unset, .unset] [(.int (p2 &&& (1 : Int32)))]) _
  by_cases hc1 : (p2 &&& (1 : Int32)) = (0 : Int32)
  · skip
    refine go1 (fun _ => XS.ifYes X0.here hx rfl (pc0 := 3) (pc' := 11) rfl (hb hby at_3) rfl ((if0 _ _).trans (teq hc1).1) (by decide) (by decide)) ?_
    show Go p.tables e below s₁ (mkF m 11 #[.val (.int p1), .val (.int p2), .unset, .unset, .unset] []) _
    refine go1 (fun _ => XS.iloadN X0.here hx rfl (hb hby at_11) rfl) ?_
    show Go p.tables e below s₁ (mkF m 12 #[.val (.int p1), .val (.int p2), .unset, .unset, .unset] [(.int p2)]) _
    refine go1 (fun _ => XS.iconst X0.here hx rfl (hb hby at_12)) ?_
    show Go p.tables e below s₁ (mkF m 13 #[.val (.int p1), .val (.int p2), .unset, .unset, .unset] [(.int (1 : Int32)), (.int p2)]) _
    refine go1 (fun _ => XS.iushr X0.here hx rfl (hb hby at_13) rfl) ?_
    show Go p.tables e below s₁ (mkF m 14 #[.val (.int p1), .val (.int p2), .unset, .unset, .unset] [(.int ((p2.toUInt32 >>> ((1 : Int32) &&& 31).toUInt32).toInt32))]) _
    refine go1 (fun _ => XS.iconst X0.here hx rfl (hb hby at_14)) ?_
    show Go p.tables e below s₁ (mkF m 15 #[.val (.int p1), .val (.int p2), .unset, .unset, .unset] [(.int (3 : Int32)), (.int ((p2.toUInt32 >>> ((1 : Int32) &&& 31).toUInt32).toInt32))]) _
    refine go1 (fun _ => XS.irem X0.here hx rfl (hb hby at_15) rfl (by decide)) ?_
    rw [irem_eq_mod ((p2.toUInt32 >>> ((1 : Int32) &&& 31).toUInt32).toInt32) (3 : Int32)]
    show Go p.tables e below s₁ (mkF m 16 #[.val (.int p1), .val (.int p2), .unset, .unset, .unset] [(.int (((p2.toUInt32 >>> ((1 : Int32) &&& 31).toUInt32).toInt32) % (3 : Int32)))]) _
    refine go1 (fun _ => XS.istoreN X0.here hx rfl (hb hby at_16) rfl (l' := #[.val (.int p1), .val (.int p2), .unset, .val (.int (((p2.toUInt32 >>> ((1 : Int32) &&& 31).toUInt32).toInt32) % (3 : Int32))), .unset]) rfl) ?_
    show Go p.tables e below s₁ (mkF m 17 #[.val (.int p1), .val (.int p2), .unset, .val (.int (((p2.toUInt32 >>> ((1 : Int32) &&& 31).toUInt32).toInt32) % (3 : Int32))), .unset] []) _
    refine go1 (fun _ => XS.iloadN X0.here hx rfl (hb hby at_17) rfl) ?_
    show Go p.tables e below s₁ (mkF m 18 #[.val (.int p1), .val (.int p2), .unset, .val (.int (((p2.toUInt32 >>> ((1 : Int32) &&& 31).toUInt32).toInt32) % (3 : Int32))), .unset] [(.int (((p2.toUInt32 >>> ((1 : Int32) &&& 31).toUInt32).toInt32) % (3 : Int32)))]) _
    by_cases hc2 : (((p2.toUInt32 >>> ((1 : Int32) &&& 31).toUInt32).toInt32) % (3 : Int32)) = (0 : Int32)
    · skip
      refine go1 (fun _ => XS.ifNo X0.here hx rfl (hb hby at_18) rfl ((if0 _ _).trans (teq hc2).2)) ?_
      show Go p.tables e below s₁ (mkF m 21 #[.val (.int p1), .val (.int p2), .unset, .val (.int (((p2.toUInt32 >>> ((1 : Int32) &&& 31).toUInt32).toInt32) % (3 : Int32))), .unset] []) _
      refine go1 (fun _ => XS.bipush X0.here hx rfl (hb hby at_21)) ?_
      show Go p.tables e below s₁ (mkF m 23 #[.val (.int p1), .val (.int p2), .unset, .val (.int (((p2.toUInt32 >>> ((1 : Int32) &&& 31).toUInt32).toInt32) % (3 : Int32))), .unset] [(.int (8 : Int32))]) _
      refine go1 (fun _ => XS.istore X0.here hx rfl (hb hby at_23) rfl (l' := #[.val (.int p1), .val (.int p2), .unset, .val (.int (((p2.toUInt32 >>> ((1 : Int32) &&& 31).toUInt32).toInt32) % (3 : Int32))), .val (.int (8 : Int32))]) rfl) ?_
      show Go p.tables e below s₁ (mkF m 25 #[.val (.int p1), .val (.int p2), .unset, .val (.int (((p2.toUInt32 >>> ((1 : Int32) &&& 31).toUInt32).toInt32) % (3 : Int32))), .val (.int (8 : Int32))] []) _
      refine go1 (fun _ => XS.goto X0.here hx rfl (pc0 := 25) (pc' := 46) rfl (hb hby at_25) (by decide) (by decide)) ?_
      show Go p.tables e below s₁ (mkF m 46 #[.val (.int p1), .val (.int p2), .unset, .val (.int (((p2.toUInt32 >>> ((1 : Int32) &&& 31).toUInt32).toInt32) % (3 : Int32))), .val (.int (8 : Int32))] []) _
      refine go1 (fun _ => XS.iload X0.here hx rfl (hb hby at_46) rfl) ?_
      show Go p.tables e below s₁ (mkF m 48 #[.val (.int p1), .val (.int p2), .unset, .val (.int (((p2.toUInt32 >>> ((1 : Int32) &&& 31).toUInt32).toInt32) % (3 : Int32))), .val (.int (8 : Int32))] [(.int (8 : Int32))]) _
      refine go1 (fun _ => XS.iloadN X0.here hx rfl (hb hby at_48) rfl) ?_
      show Go p.tables e below s₁ (mkF m 49 #[.val (.int p1), .val (.int p2), .unset, .val (.int (((p2.toUInt32 >>> ((1 : Int32) &&& 31).toUInt32).toInt32) % (3 : Int32))), .val (.int (8 : Int32))] [(.int p1), (.int (8 : Int32))]) _
      refine go1 (fun _ => XS.bipush X0.here hx rfl (hb hby at_49)) ?_
      show Go p.tables e below s₁ (mkF m 51 #[.val (.int p1), .val (.int p2), .unset, .val (.int (((p2.toUInt32 >>> ((1 : Int32) &&& 31).toUInt32).toInt32) % (3 : Int32))), .val (.int (8 : Int32))] [(.int (8 : Int32)), (.int p1), (.int (8 : Int32))]) _
      refine go1 (fun _ => XS.irem X0.here hx rfl (hb hby at_51) rfl (by decide)) ?_
      rw [irem_eq_mod p1 (8 : Int32)]
      show Go p.tables e below s₁ (mkF m 52 #[.val (.int p1), .val (.int p2), .unset, .val (.int (((p2.toUInt32 >>> ((1 : Int32) &&& 31).toUInt32).toInt32) % (3 : Int32))), .val (.int (8 : Int32))] [(.int (p1 % (8 : Int32))), (.int (8 : Int32))]) _
      refine go1 (fun _ => XS.iadd X0.here hx rfl (hb hby at_52) rfl) ?_
      show Go p.tables e below s₁ (mkF m 53 #[.val (.int p1), .val (.int p2), .unset, .val (.int (((p2.toUInt32 >>> ((1 : Int32) &&& 31).toUInt32).toInt32) % (3 : Int32))), .val (.int (8 : Int32))] [(.int ((8 : Int32) + (p1 % (8 : Int32))))]) _
      refine go1 (fun _ => XS.istoreN X0.here hx rfl (hb hby at_53) rfl (l' := #[.val (.int p1), .val (.int p2), .val (.int ((8 : Int32) + (p1 % (8 : Int32)))), .val (.int (((p2.toUInt32 >>> ((1 : Int32) &&& 31).toUInt32).toInt32) % (3 : Int32))), .val (.int (8 : Int32))]) rfl) ?_
      show Go p.tables e below s₁ (mkF m 54 #[.val (.int p1), .val (.int p2), .val (.int ((8 : Int32) + (p1 % (8 : Int32)))), .val (.int (((p2.toUInt32 >>> ((1 : Int32) &&& 31).toUInt32).toInt32) % (3 : Int32))), .val (.int (8 : Int32))] []) _
      refine go1 (fun _ => XS.iloadN X0.here hx rfl (hb hby at_54) rfl) ?_
      show Go p.tables e below s₁ (mkF m 55 #[.val (.int p1), .val (.int p2), .val (.int ((8 : Int32) + (p1 % (8 : Int32)))), .val (.int (((p2.toUInt32 >>> ((1 : Int32) &&& 31).toUInt32).toInt32) % (3 : Int32))), .val (.int (8 : Int32))] [(.int ((8 : Int32) + (p1 % (8 : Int32))))]) _
      refine go1 (fun _ => XS.bipush X0.here hx rfl (hb hby at_55)) ?_
      show Go p.tables e below s₁ (mkF m 57 #[.val (.int p1), .val (.int p2), .val (.int ((8 : Int32) + (p1 % (8 : Int32)))), .val (.int (((p2.toUInt32 >>> ((1 : Int32) &&& 31).toUInt32).toInt32) % (3 : Int32))), .val (.int (8 : Int32))] [(.int (10 : Int32)), (.int ((8 : Int32) + (p1 % (8 : Int32))))]) _
      by_cases hc3 : ((8 : Int32) + (p1 % (8 : Int32))) < (10 : Int32)
      · skip
        refine go1 (fun _ => XS.icmpYes X0.here hx rfl (pc0 := 57) (pc' := 66) rfl (hb hby at_57) rfl (tlt hc3).1 (by decide) (by decide)) ?_
        show Go p.tables e below s₁ (mkF m 66 #[.val (.int p1), .val (.int p2), .val (.int ((8 : Int32) + (p1 % (8 : Int32)))), .val (.int (((p2.toUInt32 >>> ((1 : Int32) &&& 31).toUInt32).toInt32) % (3 : Int32))), .val (.int (8 : Int32))] []) _
        refine go1 (fun _ => XS.iloadN X0.here hx rfl (hb hby at_66) rfl) ?_
        show Go p.tables e below s₁ (mkF m 67 #[.val (.int p1), .val (.int p2), .val (.int ((8 : Int32) + (p1 % (8 : Int32)))), .val (.int (((p2.toUInt32 >>> ((1 : Int32) &&& 31).toUInt32).toInt32) % (3 : Int32))), .val (.int (8 : Int32))] [(.int ((8 : Int32) + (p1 % (8 : Int32))))]) _
        refine go1 (fun _ => XS.sipush X0.here hx rfl (hb hby at_67)) ?_
        show Go p.tables e below s₁ (mkF m 70 #[.val (.int p1), .val (.int p2), .val (.int ((8 : Int32) + (p1 % (8 : Int32)))), .val (.int (((p2.toUInt32 >>> ((1 : Int32) &&& 31).toUInt32).toInt32) % (3 : Int32))), .val (.int (8 : Int32))] [(.int (133 : Int32)), (.int ((8 : Int32) + (p1 % (8 : Int32))))]) _
        by_cases hc4 : ((8 : Int32) + (p1 % (8 : Int32))) = (133 : Int32)
        · skip
          refine go1 (fun _ => XS.icmpYes X0.here hx rfl (pc0 := 70) (pc' := 87) rfl (hb hby at_70) rfl (teq hc4).1 (by decide) (by decide)) ?_
          show Go p.tables e below s₁ (mkF m 87 #[.val (.int p1), .val (.int p2), .val (.int ((8 : Int32) + (p1 % (8 : Int32)))), .val (.int (((p2.toUInt32 >>> ((1 : Int32) &&& 31).toUInt32).toInt32) % (3 : Int32))), .val (.int (8 : Int32))] []) _
          refine go1 (fun _ => XS.iconst X0.here hx rfl (hb hby at_87)) ?_
          show Go p.tables e below s₁ (mkF m 88 #[.val (.int p1), .val (.int p2), .val (.int ((8 : Int32) + (p1 % (8 : Int32)))), .val (.int (((p2.toUInt32 >>> ((1 : Int32) &&& 31).toUInt32).toInt32) % (3 : Int32))), .val (.int (8 : Int32))] [(.int (1 : Int32))]) _
          refine go1 (fun _ => XS.goto X0.here hx rfl (pc0 := 88) (pc' := 92) rfl (hb hby at_88) (by decide) (by decide)) ?_
          show Go p.tables e below s₁ (mkF m 92 #[.val (.int p1), .val (.int p2), .val (.int ((8 : Int32) + (p1 % (8 : Int32)))), .val (.int (((p2.toUInt32 >>> ((1 : Int32) &&& 31).toUInt32).toInt32) % (3 : Int32))), .val (.int (8 : Int32))] [(.int (1 : Int32))]) _
          refine go1 (fun _ => XS.istoreN X0.here hx rfl (hb hby at_92) rfl (l' := #[.val (.int p1), .val (.int p2), .val (.int ((8 : Int32) + (p1 % (8 : Int32)))), .val (.int (1 : Int32)), .val (.int (8 : Int32))]) rfl) ?_
          show Go p.tables e below s₁ (mkF m 93 #[.val (.int p1), .val (.int p2), .val (.int ((8 : Int32) + (p1 % (8 : Int32)))), .val (.int (1 : Int32)), .val (.int (8 : Int32))] []) _
          refine go1 (fun _ => XS.iloadN X0.here hx rfl (hb hby at_93) rfl) ?_
          show Go p.tables e below s₁ (mkF m 94 #[.val (.int p1), .val (.int p2), .val (.int ((8 : Int32) + (p1 % (8 : Int32)))), .val (.int (1 : Int32)), .val (.int (8 : Int32))] [(.int ((8 : Int32) + (p1 % (8 : Int32))))]) _
          obtain ⟨_, _, ⟨T5, L5, k5, n5⟩, -, X5, ⟨Lc5, hQ5, l5, y5, z5⟩, st5⟩ := Jvm.LawKit.callS X0 hx (y := (⟨"com/example/isolatrix/isolatrix/TextCursor", "isLineBreak", "(I)Z"⟩ : MethodName)) hown (mvT hZ (hw _ (List.mem_of_getElem? (i := 0) rfl))) (mvT hZ (hw _ (List.mem_of_getElem? (i := 1) rfl))) (mvT hZ (hw _ (List.mem_of_getElem? (i := 2) rfl))) (mvT hZ (hw _ (List.mem_of_getElem? (i := 3) rfl))) (by decide) (backOf (W := 0) (rm1 l Z a0 hw [] ((8 : Int32) + (p1 % (8 : Int32))) h0 n0 Z0 ) hZ (hw _ (List.mem_of_getElem? (i := 3) rfl)) (hw _ (List.mem_of_getElem? (i := 2) rfl)) (by decide) (by decide)) (g := (mkF m 94 #[.val (.int p1), .val (.int p2), .val (.int ((8 : Int32) + (p1 % (8 : Int32)))), .val (.int (1 : Int32)), .val (.int (8 : Int32))] [(.int ((8 : Int32) + (p1 % (8 : Int32))))])) rfl (by rw [hml]; rfl) (argsL := [(.int ((8 : Int32) + (p1 % (8 : Int32))))]) (rest := []) (lenOf pd0_0 rfl) rfl (by show 2 * 0 + _ ≤ _; exact Nat.le_of_eq rfl) (hb hby at_94) (fun _ _ => ⟨rfl, e0, (by decide : 0 + 0 ≤ _), (by decide : 0 + 0 ≤ _)⟩)
          dsimp only [Pt.U, Pt.locs, Pt.cells, Pt.slots] at X5 l5 y5 z5 st5 hQ5
          subst l5 y5 z5
          obtain ⟨rfl, N5q, e5⟩ := hQ5
          have N5 := Fr.app N0 N5q
          refine go1 st5 ?_
          show Go p.tables e below T5 (mkF m 97 #[.val (.int p1), .val (.int p2), .val (.int ((8 : Int32) + (p1 % (8 : Int32)))), .val (.int (1 : Int32)), .val (.int (8 : Int32))] [(.int (own_1 ((8 : Int32) + (p1 % (8 : Int32)))))]) _
          refine go1 (fun _ => XS.iloadN X5.here hx rfl (hb hby at_97) rfl) ?_
          show Go p.tables e below T5 (mkF m 98 #[.val (.int p1), .val (.int p2), .val (.int ((8 : Int32) + (p1 % (8 : Int32)))), .val (.int (1 : Int32)), .val (.int (8 : Int32))] [(.int (1 : Int32)), (.int (own_1 ((8 : Int32) + (p1 % (8 : Int32)))))]) _
          by_cases hc6 : (own_1 ((8 : Int32) + (p1 % (8 : Int32)))) = (1 : Int32)
          · skip
            refine go1 (fun _ => XS.icmpNo X5.here hx rfl (hb hby at_98) rfl (teq hc6).2) ?_
            show Go p.tables e below T5 (mkF m 101 #[.val (.int p1), .val (.int p2), .val (.int ((8 : Int32) + (p1 % (8 : Int32)))), .val (.int (1 : Int32)), .val (.int (8 : Int32))] []) _
            refine go1 (fun _ => XS.iconst X5.here hx rfl (hb hby at_101)) ?_
            show Go p.tables e below T5 (mkF m 102 #[.val (.int p1), .val (.int p2), .val (.int ((8 : Int32) + (p1 % (8 : Int32)))), .val (.int (1 : Int32)), .val (.int (8 : Int32))] [(.int (1 : Int32))]) _
            refine go1 (fun _ => XS.goto X5.here hx rfl (pc0 := 102) (pc' := 106) rfl (hb hby at_102) (by decide) (by decide)) ?_
            show Go p.tables e below T5 (mkF m 106 #[.val (.int p1), .val (.int p2), .val (.int ((8 : Int32) + (p1 % (8 : Int32)))), .val (.int (1 : Int32)), .val (.int (8 : Int32))] [(.int (1 : Int32))]) _
            refine goR X5 (BodyLoose.notSynchronized Bd) (v := (some (.int (1 : Int32)))) (fun h => by rw [Bd.returns] at h; cases h) (Q0 Z p1 p2 h0 n0) (fun fs hr => retN X5 hx (t := .boolean) Bd.returns (by simp) (hb hby at_106) hr) (by decide) (by decide) ?_
            show Q0 Z p1 p2 h0 n0 _ T5.heap _
            rw [e5]
            exact ⟨(by rw [own_0, if_pos hc1, if_pos hc2, if_pos hc3, if_pos hc4, if_pos hc6]), N5⟩
          · skip
            refine go1 (fun _ => XS.icmpYes X5.here hx rfl (pc0 := 98) (pc' := 105) rfl (hb hby at_98) rfl (feq hc6).2 (by decide) (by decide)) ?_
            show Go p.tables e below T5 (mkF m 105 #[.val (.int p1), .val (.int p2), .val (.int ((8 : Int32) + (p1 % (8 : Int32)))), .val (.int (1 : Int32)), .val (.int (8 : Int32))] []) _
            refine go1 (fun _ => XS.iconst X5.here hx rfl (hb hby at_105)) ?_
            show Go p.tables e below T5 (mkF m 106 #[.val (.int p1), .val (.int p2), .val (.int ((8 : Int32) + (p1 % (8 : Int32)))), .val (.int (1 : Int32)), .val (.int (8 : Int32))] [(.int (0 : Int32))]) _
            refine goR X5 (BodyLoose.notSynchronized Bd) (v := (some (.int (0 : Int32)))) (fun h => by rw [Bd.returns] at h; cases h) (Q0 Z p1 p2 h0 n0) (fun fs hr => retN X5 hx (t := .boolean) Bd.returns (by simp) (hb hby at_106) hr) (by decide) (by decide) ?_
            show Q0 Z p1 p2 h0 n0 _ T5.heap _
            rw [e5]
            exact ⟨(by rw [own_0, if_pos hc1, if_pos hc2, if_pos hc3, if_pos hc4, if_neg hc6]), N5⟩
        · skip
          refine go1 (fun _ => XS.icmpNo X0.here hx rfl (hb hby at_70) rfl (feq hc4).1) ?_
          show Go p.tables e below s₁ (mkF m 73 #[.val (.int p1), .val (.int p2), .val (.int ((8 : Int32) + (p1 % (8 : Int32)))), .val (.int (((p2.toUInt32 >>> ((1 : Int32) &&& 31).toUInt32).toInt32) % (3 : Int32))), .val (.int (8 : Int32))] []) _
          refine go1 (fun _ => XS.iloadN X0.here hx rfl (hb hby at_73) rfl) ?_
          show Go p.tables e below s₁ (mkF m 74 #[.val (.int p1), .val (.int p2), .val (.int ((8 : Int32) + (p1 % (8 : Int32)))), .val (.int (((p2.toUInt32 >>> ((1 : Int32) &&& 31).toUInt32).toInt32) % (3 : Int32))), .val (.int (8 : Int32))] [(.int ((8 : Int32) + (p1 % (8 : Int32))))]) _
          refine go1 (fun _ => XS.sipush X0.here hx rfl (hb hby at_74)) ?_
          show Go p.tables e below s₁ (mkF m 77 #[.val (.int p1), .val (.int p2), .val (.int ((8 : Int32) + (p1 % (8 : Int32)))), .val (.int (((p2.toUInt32 >>> ((1 : Int32) &&& 31).toUInt32).toInt32) % (3 : Int32))), .val (.int (8 : Int32))] [(.int (8232 : Int32)), (.int ((8 : Int32) + (p1 % (8 : Int32))))]) _
          by_cases hc7 : ((8 : Int32) + (p1 % (8 : Int32))) < (8232 : Int32)
          · skip
            refine go1 (fun _ => XS.icmpYes X0.here hx rfl (pc0 := 77) (pc' := 91) rfl (hb hby at_77) rfl (tlt hc7).1 (by decide) (by decide)) ?_
            show Go p.tables e below s₁ (mkF m 91 #[.val (.int p1), .val (.int p2), .val (.int ((8 : Int32) + (p1 % (8 : Int32)))), .val (.int (((p2.toUInt32 >>> ((1 : Int32) &&& 31).toUInt32).toInt32) % (3 : Int32))), .val (.int (8 : Int32))] []) _
            refine go1 (fun _ => XS.iconst X0.here hx rfl (hb hby at_91)) ?_
            show Go p.tables e below s₁ (mkF m 92 #[.val (.int p1), .val (.int p2), .val (.int ((8 : Int32) + (p1 % (8 : Int32)))), .val (.int (((p2.toUInt32 >>> ((1 : Int32) &&& 31).toUInt32).toInt32) % (3 : Int32))), .val (.int (8 : Int32))] [(.int (0 : Int32))]) _
            refine go1 (fun _ => XS.istoreN X0.here hx rfl (hb hby at_92) rfl (l' := #[.val (.int p1), .val (.int p2), .val (.int ((8 : Int32) + (p1 % (8 : Int32)))), .val (.int (0 : Int32)), .val (.int (8 : Int32))]) rfl) ?_
            show Go p.tables e below s₁ (mkF m 93 #[.val (.int p1), .val (.int p2), .val (.int ((8 : Int32) + (p1 % (8 : Int32)))), .val (.int (0 : Int32)), .val (.int (8 : Int32))] []) _
            refine go1 (fun _ => XS.iloadN X0.here hx rfl (hb hby at_93) rfl) ?_
            show Go p.tables e below s₁ (mkF m 94 #[.val (.int p1), .val (.int p2), .val (.int ((8 : Int32) + (p1 % (8 : Int32)))), .val (.int (0 : Int32)), .val (.int (8 : Int32))] [(.int ((8 : Int32) + (p1 % (8 : Int32))))]) _
            obtain ⟨_, _, ⟨T8, L8, k8, n8⟩, -, X8, ⟨Lc8, hQ8, l8, y8, z8⟩, st8⟩ := Jvm.LawKit.callS X0 hx (y := (⟨"com/example/isolatrix/isolatrix/TextCursor", "isLineBreak", "(I)Z"⟩ : MethodName)) hown (mvT hZ (hw _ (List.mem_of_getElem? (i := 0) rfl))) (mvT hZ (hw _ (List.mem_of_getElem? (i := 1) rfl))) (mvT hZ (hw _ (List.mem_of_getElem? (i := 2) rfl))) (mvT hZ (hw _ (List.mem_of_getElem? (i := 3) rfl))) (by decide) (backOf (W := 0) (rm1 l Z a0 hw [] ((8 : Int32) + (p1 % (8 : Int32))) h0 n0 Z0 ) hZ (hw _ (List.mem_of_getElem? (i := 3) rfl)) (hw _ (List.mem_of_getElem? (i := 2) rfl)) (by decide) (by decide)) (g := (mkF m 94 #[.val (.int p1), .val (.int p2), .val (.int ((8 : Int32) + (p1 % (8 : Int32)))), .val (.int (0 : Int32)), .val (.int (8 : Int32))] [(.int ((8 : Int32) + (p1 % (8 : Int32))))])) rfl (by rw [hml]; rfl) (argsL := [(.int ((8 : Int32) + (p1 % (8 : Int32))))]) (rest := []) (lenOf pd0_0 rfl) rfl (by show 2 * 0 + _ ≤ _; exact Nat.le_of_eq rfl) (hb hby at_94) (fun _ _ => ⟨rfl, e0, (by decide : 0 + 0 ≤ _), (by decide : 0 + 0 ≤ _)⟩)
            dsimp only [Pt.U, Pt.locs, Pt.cells, Pt.slots] at X8 l8 y8 z8 st8 hQ8
            subst l8 y8 z8
            obtain ⟨rfl, N8q, e8⟩ := hQ8
            have N8 := Fr.app N0 N8q
            refine go1 st8 ?_
            show Go p.tables e below T8 (mkF m 97 #[.val (.int p1), .val (.int p2), .val (.int ((8 : Int32) + (p1 % (8 : Int32)))), .val (.int (0 : Int32)), .val (.int (8 : Int32))] [(.int (own_1 ((8 : Int32) + (p1 % (8 : Int32)))))]) _
            refine go1 (fun _ => XS.iloadN X8.here hx rfl (hb hby at_97) rfl) ?_
            show Go p.tables e below T8 (mkF m 98 #[.val (.int p1), .val (.int p2), .val (.int ((8 : Int32) + (p1 % (8 : Int32)))), .val (.int (0 : Int32)), .val (.int (8 : Int32))] [(.int (0 : Int32)), (.int (own_1 ((8 : Int32) + (p1 % (8 : Int32)))))]) _
            by_cases hc9 : (own_1 ((8 : Int32) + (p1 % (8 : Int32)))) = (0 : Int32)
            · skip
              refine go1 (fun _ => XS.icmpNo X8.here hx rfl (hb hby at_98) rfl (teq hc9).2) ?_
              show Go p.tables e below T8 (mkF m 101 #[.val (.int p1), .val (.int p2), .val (.int ((8 : Int32) + (p1 % (8 : Int32)))), .val (.int (0 : Int32)), .val (.int (8 : Int32))] []) _
              refine go1 (fun _ => XS.iconst X8.here hx rfl (hb hby at_101)) ?_
              show Go p.tables e below T8 (mkF m 102 #[.val (.int p1), .val (.int p2), .val (.int ((8 : Int32) + (p1 % (8 : Int32)))), .val (.int (0 : Int32)), .val (.int (8 : Int32))] [(.int (1 : Int32))]) _
              refine go1 (fun _ => XS.goto X8.here hx rfl (pc0 := 102) (pc' := 106) rfl (hb hby at_102) (by decide) (by decide)) ?_
              show Go p.tables e below T8 (mkF m 106 #[.val (.int p1), .val (.int p2), .val (.int ((8 : Int32) + (p1 % (8 : Int32)))), .val (.int (0 : Int32)), .val (.int (8 : Int32))] [(.int (1 : Int32))]) _
              refine goR X8 (BodyLoose.notSynchronized Bd) (v := (some (.int (1 : Int32)))) (fun h => by rw [Bd.returns] at h; cases h) (Q0 Z p1 p2 h0 n0) (fun fs hr => retN X8 hx (t := .boolean) Bd.returns (by simp) (hb hby at_106) hr) (by decide) (by decide) ?_
              show Q0 Z p1 p2 h0 n0 _ T8.heap _
              rw [e8]
              exact ⟨(by rw [own_0, if_pos hc1, if_pos hc2, if_pos hc3, if_neg hc4, if_pos hc7, if_pos hc9]), N8⟩
            · skip
              refine go1 (fun _ => XS.icmpYes X8.here hx rfl (pc0 := 98) (pc' := 105) rfl (hb hby at_98) rfl (feq hc9).2 (by decide) (by decide)) ?_
              show Go p.tables e below T8 (mkF m 105 #[.val (.int p1), .val (.int p2), .val (.int ((8 : Int32) + (p1 % (8 : Int32)))), .val (.int (0 : Int32)), .val (.int (8 : Int32))] []) _
              refine go1 (fun _ => XS.iconst X8.here hx rfl (hb hby at_105)) ?_
              show Go p.tables e below T8 (mkF m 106 #[.val (.int p1), .val (.int p2), .val (.int ((8 : Int32) + (p1 % (8 : Int32)))), .val (.int (0 : Int32)), .val (.int (8 : Int32))] [(.int (0 : Int32))]) _
              refine goR X8 (BodyLoose.notSynchronized Bd) (v := (some (.int (0 : Int32)))) (fun h => by rw [Bd.returns] at h; cases h) (Q0 Z p1 p2 h0 n0) (fun fs hr => retN X8 hx (t := .boolean) Bd.returns (by simp) (hb hby at_106) hr) (by decide) (by decide) ?_
              show Q0 Z p1 p2 h0 n0 _ T8.heap _
              rw [e8]
              exact ⟨(by rw [own_0, if_pos hc1, if_pos hc2, if_pos hc3, if_neg hc4, if_pos hc7, if_neg hc9]), N8⟩
          · skip
            refine go1 (fun _ => XS.icmpNo X0.here hx rfl (hb hby at_77) rfl (flt hc7).1) ?_
            show Go p.tables e below s₁ (mkF m 80 #[.val (.int p1), .val (.int p2), .val (.int ((8 : Int32) + (p1 % (8 : Int32)))), .val (.int (((p2.toUInt32 >>> ((1 : Int32) &&& 31).toUInt32).toInt32) % (3 : Int32))), .val (.int (8 : Int32))] []) _
            refine go1 (fun _ => XS.iloadN X0.here hx rfl (hb hby at_80) rfl) ?_
            show Go p.tables e below s₁ (mkF m 81 #[.val (.int p1), .val (.int p2), .val (.int ((8 : Int32) + (p1 % (8 : Int32)))), .val (.int (((p2.toUInt32 >>> ((1 : Int32) &&& 31).toUInt32).toInt32) % (3 : Int32))), .val (.int (8 : Int32))] [(.int ((8 : Int32) + (p1 % (8 : Int32))))]) _
            refine go1 (fun _ => XS.sipush X0.here hx rfl (hb hby at_81)) ?_
            show Go p.tables e below s₁ (mkF m 84 #[.val (.int p1), .val (.int p2), .val (.int ((8 : Int32) + (p1 % (8 : Int32)))), .val (.int (((p2.toUInt32 >>> ((1 : Int32) &&& 31).toUInt32).toInt32) % (3 : Int32))), .val (.int (8 : Int32))] [(.int (8233 : Int32)), (.int ((8 : Int32) + (p1 % (8 : Int32))))]) _
            by_cases hc10 : (8233 : Int32) < ((8 : Int32) + (p1 % (8 : Int32)))
            · skip
              refine go1 (fun _ => XS.icmpYes X0.here hx rfl (pc0 := 84) (pc' := 91) rfl (hb hby at_84) rfl (tlt hc10).2.2.1 (by decide) (by decide)) ?_
              show Go p.tables e below s₁ (mkF m 91 #[.val (.int p1), .val (.int p2), .val (.int ((8 : Int32) + (p1 % (8 : Int32)))), .val (.int (((p2.toUInt32 >>> ((1 : Int32) &&& 31).toUInt32).toInt32) % (3 : Int32))), .val (.int (8 : Int32))] []) _
              refine go1 (fun _ => XS.iconst X0.here hx rfl (hb hby at_91)) ?_
              show Go p.tables e below s₁ (mkF m 92 #[.val (.int p1), .val (.int p2), .val (.int ((8 : Int32) + (p1 % (8 : Int32)))), .val (.int (((p2.toUInt32 >>> ((1 : Int32) &&& 31).toUInt32).toInt32) % (3 : Int32))), .val (.int (8 : Int32))] [(.int (0 : Int32))]) _
              refine go1 (fun _ => XS.istoreN X0.here hx rfl (hb hby at_92) rfl (l' := #[.val (.int p1), .val (.int p2), .val (.int ((8 : Int32) + (p1 % (8 : Int32)))), .val (.int (0 : Int32)), .val (.int (8 : Int32))]) rfl) ?_
              show Go p.tables e below s₁ (mkF m 93 #[.val (.int p1), .val (.int p2), .val (.int ((8 : Int32) + (p1 % (8 : Int32)))), .val (.int (0 : Int32)), .val (.int (8 : Int32))] []) _
              refine go1 (fun _ => XS.iloadN X0.here hx rfl (hb hby at_93) rfl) ?_
              show Go p.tables e below s₁ (mkF m 94 #[.val (.int p1), .val (.int p2), .val (.int ((8 : Int32) + (p1 % (8 : Int32)))), .val (.int (0 : Int32)), .val (.int (8 : Int32))] [(.int ((8 : Int32) + (p1 % (8 : Int32))))]) _
              obtain ⟨_, _, ⟨T11, L11, k11, n11⟩, -, X11, ⟨Lc11, hQ11, l11, y11, z11⟩, st11⟩ := Jvm.LawKit.callS X0 hx (y := (⟨"com/example/isolatrix/isolatrix/TextCursor", "isLineBreak", "(I)Z"⟩ : MethodName)) hown (mvT hZ (hw _ (List.mem_of_getElem? (i := 0) rfl))) (mvT hZ (hw _ (List.mem_of_getElem? (i := 1) rfl))) (mvT hZ (hw _ (List.mem_of_getElem? (i := 2) rfl))) (mvT hZ (hw _ (List.mem_of_getElem? (i := 3) rfl))) (by decide) (backOf (W := 0) (rm1 l Z a0 hw [] ((8 : Int32) + (p1 % (8 : Int32))) h0 n0 Z0 ) hZ (hw _ (List.mem_of_getElem? (i := 3) rfl)) (hw _ (List.mem_of_getElem? (i := 2) rfl)) (by decide) (by decide)) (g := (mkF m 94 #[.val (.int p1), .val (.int p2), .val (.int ((8 : Int32) + (p1 % (8 : Int32)))), .val (.int (0 : Int32)), .val (.int (8 : Int32))] [(.int ((8 : Int32) + (p1 % (8 : Int32))))])) rfl (by rw [hml]; rfl) (argsL := [(.int ((8 : Int32) + (p1 % (8 : Int32))))]) (rest := []) (lenOf pd0_0 rfl) rfl (by show 2 * 0 + _ ≤ _; exact Nat.le_of_eq rfl) (hb hby at_94) (fun _ _ => ⟨rfl, e0, (by decide : 0 + 0 ≤ _), (by decide : 0 + 0 ≤ _)⟩)
              dsimp only [Pt.U, Pt.locs, Pt.cells, Pt.slots] at X11 l11 y11 z11 st11 hQ11
              subst l11 y11 z11
              obtain ⟨rfl, N11q, e11⟩ := hQ11
              have N11 := Fr.app N0 N11q
              refine go1 st11 ?_
              show Go p.tables e below T11 (mkF m 97 #[.val (.int p1), .val (.int p2), .val (.int ((8 : Int32) + (p1 % (8 : Int32)))), .val (.int (0 : Int32)), .val (.int (8 : Int32))] [(.int (own_1 ((8 : Int32) + (p1 % (8 : Int32)))))]) _
              refine go1 (fun _ => XS.iloadN X11.here hx rfl (hb hby at_97) rfl) ?_
              show Go p.tables e below T11 (mkF m 98 #[.val (.int p1), .val (.int p2), .val (.int ((8 : Int32) + (p1 % (8 : Int32)))), .val (.int (0 : Int32)), .val (.int (8 : Int32))] [(.int (0 : Int32)), (.int (own_1 ((8 : Int32) + (p1 % (8 : Int32)))))]) _
              by_cases hc12 : (own_1 ((8 : Int32) + (p1 % (8 : Int32)))) = (0 : Int32)
              · skip
                refine go1 (fun _ => XS.icmpNo X11.here hx rfl (hb hby at_98) rfl (teq hc12).2) ?_
                show Go p.tables e below T11 (mkF m 101 #[.val (.int p1), .val (.int p2), .val (.int ((8 : Int32) + (p1 % (8 : Int32)))), .val (.int (0 : Int32)), .val (.int (8 : Int32))] []) _
                refine go1 (fun _ => XS.iconst X11.here hx rfl (hb hby at_101)) ?_
                show Go p.tables e below T11 (mkF m 102 #[.val (.int p1), .val (.int p2), .val (.int ((8 : Int32) + (p1 % (8 : Int32)))), .val (.int (0 : Int32)), .val (.int (8 : Int32))] [(.int (1 : Int32))]) _
                refine go1 (fun _ => XS.goto X11.here hx rfl (pc0 := 102) (pc' := 106) rfl (hb hby at_102) (by decide) (by decide)) ?_
                show Go p.tables e below T11 (mkF m 106 #[.val (.int p1), .val (.int p2), .val (.int ((8 : Int32) + (p1 % (8 : Int32)))), .val (.int (0 : Int32)), .val (.int (8 : Int32))] [(.int (1 : Int32))]) _
                refine goR X11 (BodyLoose.notSynchronized Bd) (v := (some (.int (1 : Int32)))) (fun h => by rw [Bd.returns] at h; cases h) (Q0 Z p1 p2 h0 n0) (fun fs hr => retN X11 hx (t := .boolean) Bd.returns (by simp) (hb hby at_106) hr) (by decide) (by decide) ?_
                show Q0 Z p1 p2 h0 n0 _ T11.heap _
                rw [e11]
                exact ⟨(by rw [own_0, if_pos hc1, if_pos hc2, if_pos hc3, if_neg hc4, if_neg hc7, if_pos hc10, if_pos hc12]), N11⟩
              · skip
                refine go1 (fun _ => XS.icmpYes X11.here hx rfl (pc0 := 98) (pc' := 105) rfl (hb hby at_98) rfl (feq hc12).2 (by decide) (by decide)) ?_
                show Go p.tables e below T11 (mkF m 105 #[.val (.int p1), .val (.int p2), .val (.int ((8 : Int32) + (p1 % (8 : Int32)))), .val (.int (0 : Int32)), .val (.int (8 : Int32))] []) _
                refine go1 (fun _ => XS.iconst X11.here hx rfl (hb hby at_105)) ?_
                show Go p.tables e below T11 (mkF m 106 #[.val (.int p1), .val (.int p2), .val (.int ((8 : Int32) + (p1 % (8 : Int32)))), .val (.int (0 : Int32)), .val (.int (8 : Int32))] [(.int (0 : Int32))]) _
                refine goR X11 (BodyLoose.notSynchronized Bd) (v := (some (.int (0 : Int32)))) (fun h => by rw [Bd.returns] at h; cases h) (Q0 Z p1 p2 h0 n0) (fun fs hr => retN X11 hx (t := .boolean) Bd.returns (by simp) (hb hby at_106) hr) (by decide) (by decide) ?_
                show Q0 Z p1 p2 h0 n0 _ T11.heap _
                rw [e11]
                exact ⟨(by rw [own_0, if_pos hc1, if_pos hc2, if_pos hc3, if_neg hc4, if_neg hc7, if_pos hc10, if_neg hc12]), N11⟩
            · skip
              refine go1 (fun _ => XS.icmpNo X0.here hx rfl (hb hby at_84) rfl (flt hc10).2.2.1) ?_
              show Go p.tables e below s₁ (mkF m 87 #[.val (.int p1), .val (.int p2), .val (.int ((8 : Int32) + (p1 % (8 : Int32)))), .val (.int (((p2.toUInt32 >>> ((1 : Int32) &&& 31).toUInt32).toInt32) % (3 : Int32))), .val (.int (8 : Int32))] []) _
              refine go1 (fun _ => XS.iconst X0.here hx rfl (hb hby at_87)) ?_
              show Go p.tables e below s₁ (mkF m 88 #[.val (.int p1), .val (.int p2), .val (.int ((8 : Int32) + (p1 % (8 : Int32)))), .val (.int (((p2.toUInt32 >>> ((1 : Int32) &&& 31).toUInt32).toInt32) % (3 : Int32))), .val (.int (8 : Int32))] [(.int (1 : Int32))]) _
              refine go1 (fun _ => XS.goto X0.here hx rfl (pc0 := 88) (pc' := 92) rfl (hb hby at_88) (by decide) (by decide)) ?_
              show Go p.tables e below s₁ (mkF m 92 #[.val (.int p1), .val (.int p2), .val (.int ((8 : Int32) + (p1 % (8 : Int32)))), .val (.int (((p2.toUInt32 >>> ((1 : Int32) &&& 31).toUInt32).toInt32) % (3 : Int32))), .val (.int (8 : Int32))] [(.int (1 : Int32))]) _
              refine go1 (fun _ => XS.istoreN X0.here hx rfl (hb hby at_92) rfl (l' := #[.val (.int p1), .val (.int p2), .val (.int ((8 : Int32) + (p1 % (8 : Int32)))), .val (.int (1 : Int32)), .val (.int (8 : Int32))]) rfl) ?_
              show Go p.tables e below s₁ (mkF m 93 #[.val (.int p1), .val (.int p2), .val (.int ((8 : Int32) + (p1 % (8 : Int32)))), .val (.int (1 : Int32)), .val (.int (8 : Int32))] []) _
              refine go1 (fun _ => XS.iloadN X0.here hx rfl (hb hby at_93) rfl) ?_
              show Go p.tables e below s₁ (mkF m 94 #[.val (.int p1), .val (.int p2), .val (.int ((8 : Int32) + (p1 % (8 : Int32)))), .val (.int (1 : Int32)), .val (.int (8 : Int32))] [(.int ((8 : Int32) + (p1 % (8 : Int32))))]) _
              obtain ⟨_, _, ⟨T13, L13, k13, n13⟩, -, X13, ⟨Lc13, hQ13, l13, y13, z13⟩, st13⟩ := Jvm.LawKit.callS X0 hx (y := (⟨"com/example/isolatrix/isolatrix/TextCursor", "isLineBreak", "(I)Z"⟩ : MethodName)) hown (mvT hZ (hw _ (List.mem_of_getElem? (i := 0) rfl))) (mvT hZ (hw _ (List.mem_of_getElem? (i := 1) rfl))) (mvT hZ (hw _ (List.mem_of_getElem? (i := 2) rfl))) (mvT hZ (hw _ (List.mem_of_getElem? (i := 3) rfl))) (by decide) (backOf (W := 0) (rm1 l Z a0 hw [] ((8 : Int32) + (p1 % (8 : Int32))) h0 n0 Z0 ) hZ (hw _ (List.mem_of_getElem? (i := 3) rfl)) (hw _ (List.mem_of_getElem? (i := 2) rfl)) (by decide) (by decide)) (g := (mkF m 94 #[.val (.int p1), .val (.int p2), .val (.int ((8 : Int32) + (p1 % (8 : Int32)))), .val (.int (1 : Int32)), .val (.int (8 : Int32))] [(.int ((8 : Int32) + (p1 % (8 : Int32))))])) rfl (by rw [hml]; rfl) (argsL := [(.int ((8 : Int32) + (p1 % (8 : Int32))))]) (rest := []) (lenOf pd0_0 rfl) rfl (by show 2 * 0 + _ ≤ _; exact Nat.le_of_eq rfl) (hb hby at_94) (fun _ _ => ⟨rfl, e0, (by decide : 0 + 0 ≤ _), (by decide : 0 + 0 ≤ _)⟩)
              dsimp only [Pt.U, Pt.locs, Pt.cells, Pt.slots] at X13 l13 y13 z13 st13 hQ13
              subst l13 y13 z13
              obtain ⟨rfl, N13q, e13⟩ := hQ13
              have N13 := Fr.app N0 N13q
              refine go1 st13 ?_
              show Go p.tables e below T13 (mkF m 97 #[.val (.int p1), .val (.int p2), .val (.int ((8 : Int32) + (p1 % (8 : Int32)))), .val (.int (1 : Int32)), .val (.int (8 : Int32))] [(.int (own_1 ((8 : Int32) + (p1 % (8 : Int32)))))]) _
              refine go1 (fun _ => XS.iloadN X13.here hx rfl (hb hby at_97) rfl) ?_
              show Go p.tables e below T13 (mkF m 98 #[.val (.int p1), .val (.int p2), .val (.int ((8 : Int32) + (p1 % (8 : Int32)))), .val (.int (1 : Int32)), .val (.int (8 : Int32))] [(.int (1 : Int32)), (.int (own_1 ((8 : Int32) + (p1 % (8 : Int32)))))]) _
              by_cases hc14 : (own_1 ((8 : Int32) + (p1 % (8 : Int32)))) = (1 : Int32)
              · skip
                refine go1 (fun _ => XS.icmpNo X13.here hx rfl (hb hby at_98) rfl (teq hc14).2) ?_
                show Go p.tables e below T13 (mkF m 101 #[.val (.int p1), .val (.int p2), .val (.int ((8 : Int32) + (p1 % (8 : Int32)))), .val (.int (1 : Int32)), .val (.int (8 : Int32))] []) _
                refine go1 (fun _ => XS.iconst X13.here hx rfl (hb hby at_101)) ?_
                show Go p.tables e below T13 (mkF m 102 #[.val (.int p1), .val (.int p2), .val (.int ((8 : Int32) + (p1 % (8 : Int32)))), .val (.int (1 : Int32)), .val (.int (8 : Int32))] [(.int (1 : Int32))]) _
                refine go1 (fun _ => XS.goto X13.here hx rfl (pc0 := 102) (pc' := 106) rfl (hb hby at_102) (by decide) (by decide)) ?_
                show Go p.tables e below T13 (mkF m 106 #[.val (.int p1), .val (.int p2), .val (.int ((8 : Int32) + (p1 % (8 : Int32)))), .val (.int (1 : Int32)), .val (.int (8 : Int32))] [(.int (1 : Int32))]) _
                refine goR X13 (BodyLoose.notSynchronized Bd) (v := (some (.int (1 : Int32)))) (fun h => by rw [Bd.returns] at h; cases h) (Q0 Z p1 p2 h0 n0) (fun fs hr => retN X13 hx (t := .boolean) Bd.returns (by simp) (hb hby at_106) hr) (by decide) (by decide) ?_
                show Q0 Z p1 p2 h0 n0 _ T13.heap _
                rw [e13]
                exact ⟨(by rw [own_0, if_pos hc1, if_pos hc2, if_pos hc3, if_neg hc4, if_neg hc7, if_neg hc10, if_pos hc14]), N13⟩
              · skip
                refine go1 (fun _ => XS.icmpYes X13.here hx rfl (pc0 := 98) (pc' := 105) rfl (hb hby at_98) rfl (feq hc14).2 (by decide) (by decide)) ?_
                show Go p.tables e below T13 (mkF m 105 #[.val (.int p1), .val (.int p2), .val (.int ((8 : Int32) + (p1 % (8 : Int32)))), .val (.int (1 : Int32)), .val (.int (8 : Int32))] []) _
                refine go1 (fun _ => XS.iconst X13.here hx rfl (hb hby at_105)) ?_
                show Go p.tables e below T13 (mkF m 106 #[.val (.int p1), .val (.int p2), .val (.int ((8 : Int32) + (p1 % (8 : Int32)))), .val (.int (1 : Int32)), .val (.int (8 : Int32))] [(.int (0 : Int32))]) _
                refine goR X13 (BodyLoose.notSynchronized Bd) (v := (some (.int (0 : Int32)))) (fun h => by rw [Bd.returns] at h; cases h) (Q0 Z p1 p2 h0 n0) (fun fs hr => retN X13 hx (t := .boolean) Bd.returns (by simp) (hb hby at_106) hr) (by decide) (by decide) ?_
                show Q0 Z p1 p2 h0 n0 _ T13.heap _
                rw [e13]
                exact ⟨(by rw [own_0, if_pos hc1, if_pos hc2, if_pos hc3, if_neg hc4, if_neg hc7, if_neg hc10, if_neg hc14]), N13⟩
      · skip
        refine go1 (fun _ => XS.icmpNo X0.here hx rfl (hb hby at_57) rfl (flt hc3).1) ?_
        show Go p.tables e below s₁ (mkF m 60 #[.val (.int p1), .val (.int p2), .val (.int ((8 : Int32) + (p1 % (8 : Int32)))), .val (.int (((p2.toUInt32 >>> ((1 : Int32) &&& 31).toUInt32).toInt32) % (3 : Int32))), .val (.int (8 : Int32))] []) _
        refine go1 (fun _ => XS.iloadN X0.here hx rfl (hb hby at_60) rfl) ?_
        show Go p.tables e below s₁ (mkF m 61 #[.val (.int p1), .val (.int p2), .val (.int ((8 : Int32) + (p1 % (8 : Int32)))), .val (.int (((p2.toUInt32 >>> ((1 : Int32) &&& 31).toUInt32).toInt32) % (3 : Int32))), .val (.int (8 : Int32))] [(.int ((8 : Int32) + (p1 % (8 : Int32))))]) _
        refine go1 (fun _ => XS.bipush X0.here hx rfl (hb hby at_61)) ?_
        show Go p.tables e below s₁ (mkF m 63 #[.val (.int p1), .val (.int p2), .val (.int ((8 : Int32) + (p1 % (8 : Int32)))), .val (.int (((p2.toUInt32 >>> ((1 : Int32) &&& 31).toUInt32).toInt32) % (3 : Int32))), .val (.int (8 : Int32))] [(.int (13 : Int32)), (.int ((8 : Int32) + (p1 % (8 : Int32))))]) _
        by_cases hc15 : (13 : Int32) < ((8 : Int32) + (p1 % (8 : Int32)))
        · skip
          refine go1 (fun _ => XS.icmpNo X0.here hx rfl (hb hby at_63) rfl (tlt hc15).2.2.2) ?_
          show Go p.tables e below s₁ (mkF m 66 #[.val (.int p1), .val (.int p2), .val (.int ((8 : Int32) + (p1 % (8 : Int32)))), .val (.int (((p2.toUInt32 >>> ((1 : Int32) &&& 31).toUInt32).toInt32) % (3 : Int32))), .val (.int (8 : Int32))] []) _
          refine go1 (fun _ => XS.iloadN X0.here hx rfl (hb hby at_66) rfl) ?_
          show Go p.tables e below s₁ (mkF m 67 #[.val (.int p1), .val (.int p2), .val (.int ((8 : Int32) + (p1 % (8 : Int32)))), .val (.int (((p2.toUInt32 >>> ((1 : Int32) &&& 31).toUInt32).toInt32) % (3 : Int32))), .val (.int (8 : Int32))] [(.int ((8 : Int32) + (p1 % (8 : Int32))))]) _
          refine go1 (fun _ => XS.sipush X0.here hx rfl (hb hby at_67)) ?_
          show Go p.tables e below s₁ (mkF m 70 #[.val (.int p1), .val (.int p2), .val (.int ((8 : Int32) + (p1 % (8 : Int32)))), .val (.int (((p2.toUInt32 >>> ((1 : Int32) &&& 31).toUInt32).toInt32) % (3 : Int32))), .val (.int (8 : Int32))] [(.int (133 : Int32)), (.int ((8 : Int32) + (p1 % (8 : Int32))))]) _
          by_cases hc16 : ((8 : Int32) + (p1 % (8 : Int32))) = (133 : Int32)
          · skip
            refine go1 (fun _ => XS.icmpYes X0.here hx rfl (pc0 := 70) (pc' := 87) rfl (hb hby at_70) rfl (teq hc16).1 (by decide) (by decide)) ?_
            show Go p.tables e below s₁ (mkF m 87 #[.val (.int p1), .val (.int p2), .val (.int ((8 : Int32) + (p1 % (8 : Int32)))), .val (.int (((p2.toUInt32 >>> ((1 : Int32) &&& 31).toUInt32).toInt32) % (3 : Int32))), .val (.int (8 : Int32))] []) _
            refine go1 (fun _ => XS.iconst X0.here hx rfl (hb hby at_87)) ?_
            show Go p.tables e below s₁ (mkF m 88 #[.val (.int p1), .val (.int p2), .val (.int ((8 : Int32) + (p1 % (8 : Int32)))), .val (.int (((p2.toUInt32 >>> ((1 : Int32) &&& 31).toUInt32).toInt32) % (3 : Int32))), .val (.int (8 : Int32))] [(.int (1 : Int32))]) _
            refine go1 (fun _ => XS.goto X0.here hx rfl (pc0 := 88) (pc' := 92) rfl (hb hby at_88) (by decide) (by decide)) ?_
            show Go p.tables e below s₁ (mkF m 92 #[.val (.int p1), .val (.int p2), .val (.int ((8 : Int32) + (p1 % (8 : Int32)))), .val (.int (((p2.toUInt32 >>> ((1 : Int32) &&& 31).toUInt32).toInt32) % (3 : Int32))), .val (.int (8 : Int32))] [(.int (1 : Int32))]) _
            refine go1 (fun _ => XS.istoreN X0.here hx rfl (hb hby at_92) rfl (l' := #[.val (.int p1), .val (.int p2), .val (.int ((8 : Int32) + (p1 % (8 : Int32)))), .val (.int (1 : Int32)), .val (.int (8 : Int32))]) rfl) ?_
            show Go p.tables e below s₁ (mkF m 93 #[.val (.int p1), .val (.int p2), .val (.int ((8 : Int32) + (p1 % (8 : Int32)))), .val (.int (1 : Int32)), .val (.int (8 : Int32))] []) _
            refine go1 (fun _ => XS.iloadN X0.here hx rfl (hb hby at_93) rfl) ?_
            show Go p.tables e below s₁ (mkF m 94 #[.val (.int p1), .val (.int p2), .val (.int ((8 : Int32) + (p1 % (8 : Int32)))), .val (.int (1 : Int32)), .val (.int (8 : Int32))] [(.int ((8 : Int32) + (p1 % (8 : Int32))))]) _
            obtain ⟨_, _, ⟨T17, L17, k17, n17⟩, -, X17, ⟨Lc17, hQ17, l17, y17, z17⟩, st17⟩ := Jvm.LawKit.callS X0 hx (y := (⟨"com/example/isolatrix/isolatrix/TextCursor", "isLineBreak", "(I)Z"⟩ : MethodName)) hown (mvT hZ (hw _ (List.mem_of_getElem? (i := 0) rfl))) (mvT hZ (hw _ (List.mem_of_getElem? (i := 1) rfl))) (mvT hZ (hw _ (List.mem_of_getElem? (i := 2) rfl))) (mvT hZ (hw _ (List.mem_of_getElem? (i := 3) rfl))) (by decide) (backOf (W := 0) (rm1 l Z a0 hw [] ((8 : Int32) + (p1 % (8 : Int32))) h0 n0 Z0 ) hZ (hw _ (List.mem_of_getElem? (i := 3) rfl)) (hw _ (List.mem_of_getElem? (i := 2) rfl)) (by decide) (by decide)) (g := (mkF m 94 #[.val (.int p1), .val (.int p2), .val (.int ((8 : Int32) + (p1 % (8 : Int32)))), .val (.int (1 : Int32)), .val (.int (8 : Int32))] [(.int ((8 : Int32) + (p1 % (8 : Int32))))])) rfl (by rw [hml]; rfl) (argsL := [(.int ((8 : Int32) + (p1 % (8 : Int32))))]) (rest := []) (lenOf pd0_0 rfl) rfl (by show 2 * 0 + _ ≤ _; exact Nat.le_of_eq rfl) (hb hby at_94) (fun _ _ => ⟨rfl, e0, (by decide : 0 + 0 ≤ _), (by decide : 0 + 0 ≤ _)⟩)
            dsimp only [Pt.U, Pt.locs, Pt.cells, Pt.slots] at X17 l17 y17 z17 st17 hQ17
            subst l17 y17 z17
            obtain ⟨rfl, N17q, e17⟩ := hQ17
            have N17 := Fr.app N0 N17q
            refine go1 st17 ?_
            show Go p.tables e below T17 (mkF m 97 #[.val (.int p1), .val (.int p2), .val (.int ((8 : Int32) + (p1 % (8 : Int32)))), .val (.int (1 : Int32)), .val (.int (8 : Int32))] [(.int (own_1 ((8 : Int32) + (p1 % (8 : Int32)))))]) _
            refine go1 (fun _ => XS.iloadN X17.here hx rfl (hb hby at_97) rfl) ?_
            show Go p.tables e below T17 (mkF m 98 #[.val (.int p1), .val (.int p2), .val (.int ((8 : Int32) + (p1 % (8 : Int32)))), .val (.int (1 : Int32)), .val (.int (8 : Int32))] [(.int (1 : Int32)), (.int (own_1 ((8 : Int32) + (p1 % (8 : Int32)))))]) _
            by_cases hc18 : (own_1 ((8 : Int32) + (p1 % (8 : Int32)))) = (1 : Int32)
            · skip
              refine go1 (fun _ => XS.icmpNo X17.here hx rfl (hb hby at_98) rfl (teq hc18).2) ?_
              show Go p.tables e below T17 (mkF m 101 #[.val (.int p1), .val (.int p2), .val (.int ((8 : Int32) + (p1 % (8 : Int32)))), .val (.int (1 : Int32)), .val (.int (8 : Int32))] []) _
              refine go1 (fun _ => XS.iconst X17.here hx rfl (hb hby at_101)) ?_
              show Go p.tables e below T17 (mkF m 102 #[.val (.int p1), .val (.int p2), .val (.int ((8 : Int32) + (p1 % (8 : Int32)))), .val (.int (1 : Int32)), .val (.int (8 : Int32))] [(.int (1 : Int32))]) _
              refine go1 (fun _ => XS.goto X17.here hx rfl (pc0 := 102) (pc' := 106) rfl (hb hby at_102) (by decide) (by decide)) ?_
              show Go p.tables e below T17 (mkF m 106 #[.val (.int p1), .val (.int p2), .val (.int ((8 : Int32) + (p1 % (8 : Int32)))), .val (.int (1 : Int32)), .val (.int (8 : Int32))] [(.int (1 : Int32))]) _
              refine goR X17 (BodyLoose.notSynchronized Bd) (v := (some (.int (1 : Int32)))) (fun h => by rw [Bd.returns] at h; cases h) (Q0 Z p1 p2 h0 n0) (fun fs hr => retN X17 hx (t := .boolean) Bd.returns (by simp) (hb hby at_106) hr) (by decide) (by decide) ?_
              show Q0 Z p1 p2 h0 n0 _ T17.heap _
              rw [e17]
              exact ⟨(by rw [own_0, if_pos hc1, if_pos hc2, if_neg hc3, if_pos hc15, if_pos hc16, if_pos hc18]), N17⟩
            · skip
              refine go1 (fun _ => XS.icmpYes X17.here hx rfl (pc0 := 98) (pc' := 105) rfl (hb hby at_98) rfl (feq hc18).2 (by decide) (by decide)) ?_
              show Go p.tables e below T17 (mkF m 105 #[.val (.int p1), .val (.int p2), .val (.int ((8 : Int32) + (p1 % (8 : Int32)))), .val (.int (1 : Int32)), .val (.int (8 : Int32))] []) _
              refine go1 (fun _ => XS.iconst X17.here hx rfl (hb hby at_105)) ?_
              show Go p.tables e below T17 (mkF m 106 #[.val (.int p1), .val (.int p2), .val (.int ((8 : Int32) + (p1 % (8 : Int32)))), .val (.int (1 : Int32)), .val (.int (8 : Int32))] [(.int (0 : Int32))]) _
              refine goR X17 (BodyLoose.notSynchronized Bd) (v := (some (.int (0 : Int32)))) (fun h => by rw [Bd.returns] at h; cases h) (Q0 Z p1 p2 h0 n0) (fun fs hr => retN X17 hx (t := .boolean) Bd.returns (by simp) (hb hby at_106) hr) (by decide) (by decide) ?_
              show Q0 Z p1 p2 h0 n0 _ T17.heap _
              rw [e17]
              exact ⟨(by rw [own_0, if_pos hc1, if_pos hc2, if_neg hc3, if_pos hc15, if_pos hc16, if_neg hc18]), N17⟩
          · skip
            refine go1 (fun _ => XS.icmpNo X0.here hx rfl (hb hby at_70) rfl (feq hc16).1) ?_
            show Go p.tables e below s₁ (mkF m 73 #[.val (.int p1), .val (.int p2), .val (.int ((8 : Int32) + (p1 % (8 : Int32)))), .val (.int (((p2.toUInt32 >>> ((1 : Int32) &&& 31).toUInt32).toInt32) % (3 : Int32))), .val (.int (8 : Int32))] []) _
            refine go1 (fun _ => XS.iloadN X0.here hx rfl (hb hby at_73) rfl) ?_
            show Go p.tables e below s₁ (mkF m 74 #[.val (.int p1), .val (.int p2), .val (.int ((8 : Int32) + (p1 % (8 : Int32)))), .val (.int (((p2.toUInt32 >>> ((1 : Int32) &&& 31).toUInt32).toInt32) % (3 : Int32))), .val (.int (8 : Int32))] [(.int ((8 : Int32) + (p1 % (8 : Int32))))]) _
            refine go1 (fun _ => XS.sipush X0.here hx rfl (hb hby at_74)) ?_
            show Go p.tables e below s₁ (mkF m 77 #[.val (.int p1), .val (.int p2), .val (.int ((8 : Int32) + (p1 % (8 : Int32)))), .val (.int (((p2.toUInt32 >>> ((1 : Int32) &&& 31).toUInt32).toInt32) % (3 : Int32))), .val (.int (8 : Int32))] [(.int (8232 : Int32)), (.int ((8 : Int32) + (p1 % (8 : Int32))))]) _
            by_cases hc19 : ((8 : Int32) + (p1 % (8 : Int32))) < (8232 : Int32)
            · skip
              refine go1 (fun _ => XS.icmpYes X0.here hx rfl (pc0 := 77) (pc' := 91) rfl (hb hby at_77) rfl (tlt hc19).1 (by decide) (by decide)) ?_
              show Go p.tables e below s₁ (mkF m 91 #[.val (.int p1), .val (.int p2), .val (.int ((8 : Int32) + (p1 % (8 : Int32)))), .val (.int (((p2.toUInt32 >>> ((1 : Int32) &&& 31).toUInt32).toInt32) % (3 : Int32))), .val (.int (8 : Int32))] []) _
              refine go1 (fun _ => XS.iconst X0.here hx rfl (hb hby at_91)) ?_
              show Go p.tables e below s₁ (mkF m 92 #[.val (.int p1), .val (.int p2), .val (.int ((8 : Int32) + (p1 % (8 : Int32)))), .val (.int (((p2.toUInt32 >>> ((1 : Int32) &&& 31).toUInt32).toInt32) % (3 : Int32))), .val (.int (8 : Int32))] [(.int (0 : Int32))]) _
              refine go1 (fun _ => XS.istoreN X0.here hx rfl (hb hby at_92) rfl (l' := #[.val (.int p1), .val (.int p2), .val (.int ((8 : Int32) + (p1 % (8 : Int32)))), .val (.int (0 : Int32)), .val (.int (8 : Int32))]) rfl) ?_
              show Go p.tables e below s₁ (mkF m 93 #[.val (.int p1), .val (.int p2), .val (.int ((8 : Int32) + (p1 % (8 : Int32)))), .val (.int (0 : Int32)), .val (.int (8 : Int32))] []) _
              refine go1 (fun _ => XS.iloadN X0.here hx rfl (hb hby at_93) rfl) ?_
              show Go p.tables e below s₁ (mkF m 94 #[.val (.int p1), .val (.int p2), .val (.int ((8 : Int32) + (p1 % (8 : Int32)))), .val (.int (0 : Int32)), .val (.int (8 : Int32))] [(.int ((8 : Int32) + (p1 % (8 : Int32))))]) _
              obtain ⟨_, _, ⟨T20, L20, k20, n20⟩, -, X20, ⟨Lc20, hQ20, l20, y20, z20⟩, st20⟩ := Jvm.LawKit.callS X0 hx (y := (⟨"com/example/isolatrix/isolatrix/TextCursor", "isLineBreak", "(I)Z"⟩ : MethodName)) hown (mvT hZ (hw _ (List.mem_of_getElem? (i := 0) rfl))) (mvT hZ (hw _ (List.mem_of_getElem? (i := 1) rfl))) (mvT hZ (hw _ (List.mem_of_getElem? (i := 2) rfl))) (mvT hZ (hw _ (List.mem_of_getElem? (i := 3) rfl))) (by decide) (backOf (W := 0) (rm1 l Z a0 hw [] ((8 : Int32) + (p1 % (8 : Int32))) h0 n0 Z0 ) hZ (hw _ (List.mem_of_getElem? (i := 3) rfl)) (hw _ (List.mem_of_getElem? (i := 2) rfl)) (by decide) (by decide)) (g := (mkF m 94 #[.val (.int p1), .val (.int p2), .val (.int ((8 : Int32) + (p1 % (8 : Int32)))), .val (.int (0 : Int32)), .val (.int (8 : Int32))] [(.int ((8 : Int32) + (p1 % (8 : Int32))))])) rfl (by rw [hml]; rfl) (argsL := [(.int ((8 : Int32) + (p1 % (8 : Int32))))]) (rest := []) (lenOf pd0_0 rfl) rfl (by show 2 * 0 + _ ≤ _; exact Nat.le_of_eq rfl) (hb hby at_94) (fun _ _ => ⟨rfl, e0, (by decide : 0 + 0 ≤ _), (by decide : 0 + 0 ≤ _)⟩)
              dsimp only [Pt.U, Pt.locs, Pt.cells, Pt.slots] at X20 l20 y20 z20 st20 hQ20
              subst l20 y20 z20
              obtain ⟨rfl, N20q, e20⟩ := hQ20
              have N20 := Fr.app N0 N20q
              refine go1 st20 ?_
              show Go p.tables e below T20 (mkF m 97 #[.val (.int p1), .val (.int p2), .val (.int ((8 : Int32) + (p1 % (8 : Int32)))), .val (.int (0 : Int32)), .val (.int (8 : Int32))] [(.int (own_1 ((8 : Int32) + (p1 % (8 : Int32)))))]) _
              refine go1 (fun _ => XS.iloadN X20.here hx rfl (hb hby at_97) rfl) ?_
              show Go p.tables e below T20 (mkF m 98 #[.val (.int p1), .val (.int p2), .val (.int ((8 : Int32) + (p1 % (8 : Int32)))), .val (.int (0 : Int32)), .val (.int (8 : Int32))] [(.int (0 : Int32)), (.int (own_1 ((8 : Int32) + (p1 % (8 : Int32)))))]) _
              by_cases hc21 : (own_1 ((8 : Int32) + (p1 % (8 : Int32)))) = (0 : Int32)
              · skip
                refine go1 (fun _ => XS.icmpNo X20.here hx rfl (hb hby at_98) rfl (teq hc21).2) ?_
                show Go p.tables e below T20 (mkF m 101 #[.val (.int p1), .val (.int p2), .val (.int ((8 : Int32) + (p1 % (8 : Int32)))), .val (.int (0 : Int32)), .val (.int (8 : Int32))] []) _
                refine go1 (fun _ => XS.iconst X20.here hx rfl (hb hby at_101)) ?_
                show Go p.tables e below T20 (mkF m 102 #[.val (.int p1), .val (.int p2), .val (.int ((8 : Int32) + (p1 % (8 : Int32)))), .val (.int (0 : Int32)), .val (.int (8 : Int32))] [(.int (1 : Int32))]) _
                refine go1 (fun _ => XS.goto X20.here hx rfl (pc0 := 102) (pc' := 106) rfl (hb hby at_102) (by decide) (by decide)) ?_
                show Go p.tables e below T20 (mkF m 106 #[.val (.int p1), .val (.int p2), .val (.int ((8 : Int32) + (p1 % (8 : Int32)))), .val (.int (0 : Int32)), .val (.int (8 : Int32))] [(.int (1 : Int32))]) _
                refine goR X20 (BodyLoose.notSynchronized Bd) (v := (some (.int (1 : Int32)))) (fun h => by rw [Bd.returns] at h; cases h) (Q0 Z p1 p2 h0 n0) (fun fs hr => retN X20 hx (t := .boolean) Bd.returns (by simp) (hb hby at_106) hr) (by decide) (by decide) ?_
                show Q0 Z p1 p2 h0 n0 _ T20.heap _
                rw [e20]
                exact ⟨(by rw [own_0, if_pos hc1, if_pos hc2, if_neg hc3, if_pos hc15, if_neg hc16, if_pos hc19, if_pos hc21]), N20⟩
              · skip
                refine go1 (fun _ => XS.icmpYes X20.here hx rfl (pc0 := 98) (pc' := 105) rfl (hb hby at_98) rfl (feq hc21).2 (by decide) (by decide)) ?_
                show Go p.tables e below T20 (mkF m 105 #[.val (.int p1), .val (.int p2), .val (.int ((8 : Int32) + (p1 % (8 : Int32)))), .val (.int (0 : Int32)), .val (.int (8 : Int32))] []) _
                refine go1 (fun _ => XS.iconst X20.here hx rfl (hb hby at_105)) ?_
                show Go p.tables e below T20 (mkF m 106 #[.val (.int p1), .val (.int p2), .val (.int ((8 : Int32) + (p1 % (8 : Int32)))), .val (.int (0 : Int32)), .val (.int (8 : Int32))] [(.int (0 : Int32))]) _
                refine goR X20 (BodyLoose.notSynchronized Bd) (v := (some (.int (0 : Int32)))) (fun h => by rw [Bd.returns] at h; cases h) (Q0 Z p1 p2 h0 n0) (fun fs hr => retN X20 hx (t := .boolean) Bd.returns (by simp) (hb hby at_106) hr) (by decide) (by decide) ?_
                show Q0 Z p1 p2 h0 n0 _ T20.heap _
                rw [e20]
                exact ⟨(by rw [own_0, if_pos hc1, if_pos hc2, if_neg hc3, if_pos hc15, if_neg hc16, if_pos hc19, if_neg hc21]), N20⟩
            · skip
              refine go1 (fun _ => XS.icmpNo X0.here hx rfl (hb hby at_77) rfl (flt hc19).1) ?_
              show Go p.tables e below s₁ (mkF m 80 #[.val (.int p1), .val (.int p2), .val (.int ((8 : Int32) + (p1 % (8 : Int32)))), .val (.int (((p2.toUInt32 >>> ((1 : Int32) &&& 31).toUInt32).toInt32) % (3 : Int32))), .val (.int (8 : Int32))] []) _
              refine go1 (fun _ => XS.iloadN X0.here hx rfl (hb hby at_80) rfl) ?_
              show Go p.tables e below s₁ (mkF m 81 #[.val (.int p1), .val (.int p2), .val (.int ((8 : Int32) + (p1 % (8 : Int32)))), .val (.int (((p2.toUInt32 >>> ((1 : Int32) &&& 31).toUInt32).toInt32) % (3 : Int32))), .val (.int (8 : Int32))] [(.int ((8 : Int32) + (p1 % (8 : Int32))))]) _
              refine go1 (fun _ => XS.sipush X0.here hx rfl (hb hby at_81)) ?_
              show Go p.tables e below s₁ (mkF m 84 #[.val (.int p1), .val (.int p2), .val (.int ((8 : Int32) + (p1 % (8 : Int32)))), .val (.int (((p2.toUInt32 >>> ((1 : Int32) &&& 31).toUInt32).toInt32) % (3 : Int32))), .val (.int (8 : Int32))] [(.int (8233 : Int32)), (.int ((8 : Int32) + (p1 % (8 : Int32))))]) _
              by_cases hc22 : (8233 : Int32) < ((8 : Int32) + (p1 % (8 : Int32)))
              · skip
                refine go1 (fun _ => XS.icmpYes X0.here hx rfl (pc0 := 84) (pc' := 91) rfl (hb hby at_84) rfl (tlt hc22).2.2.1 (by decide) (by decide)) ?_
                show Go p.tables e below s₁ (mkF m 91 #[.val (.int p1), .val (.int p2), .val (.int ((8 : Int32) + (p1 % (8 : Int32)))), .val (.int (((p2.toUInt32 >>> ((1 : Int32) &&& 31).toUInt32).toInt32) % (3 : Int32))), .val (.int (8 : Int32))] []) _
                refine go1 (fun _ => XS.iconst X0.here hx rfl (hb hby at_91)) ?_
                show Go p.tables e below s₁ (mkF m 92 #[.val (.int p1), .val (.int p2), .val (.int ((8 : Int32) + (p1 % (8 : Int32)))), .val (.int (((p2.toUInt32 >>> ((1 : Int32) &&& 31).toUInt32).toInt32) % (3 : Int32))), .val (.int (8 : Int32))] [(.int (0 : Int32))]) _
                refine go1 (fun _ => XS.istoreN X0.here hx rfl (hb hby at_92) rfl (l' := #[.val (.int p1), .val (.int p2), .val (.int ((8 : Int32) + (p1 % (8 : Int32)))), .val (.int (0 : Int32)), .val (.int (8 : Int32))]) rfl) ?_
                show Go p.tables e below s₁ (mkF m 93 #[.val (.int p1), .val (.int p2), .val (.int ((8 : Int32) + (p1 % (8 : Int32)))), .val (.int (0 : Int32)), .val (.int (8 : Int32))] []) _
                refine go1 (fun _ => XS.iloadN X0.here hx rfl (hb hby at_93) rfl) ?_
                show Go p.tables e below s₁ (mkF m 94 #[.val (.int p1), .val (.int p2), .val (.int ((8 : Int32) + (p1 % (8 : Int32)))), .val (.int (0 : Int32)), .val (.int (8 : Int32))] [(.int ((8 : Int32) + (p1 % (8 : Int32))))]) _
                obtain ⟨_, _, ⟨T23, L23, k23, n23⟩, -, X23, ⟨Lc23, hQ23, l23, y23, z23⟩, st23⟩ := Jvm.LawKit.callS X0 hx (y := (⟨"com/example/isolatrix/isolatrix/TextCursor", "isLineBreak", "(I)Z"⟩ : MethodName)) hown (mvT hZ (hw _ (List.mem_of_getElem? (i := 0) rfl))) (mvT hZ (hw _ (List.mem_of_getElem? (i := 1) rfl))) (mvT hZ (hw _ (List.mem_of_getElem? (i := 2) rfl))) (mvT hZ (hw _ (List.mem_of_getElem? (i := 3) rfl))) (by decide) (backOf (W := 0) (rm1 l Z a0 hw [] ((8 : Int32) + (p1 % (8 : Int32))) h0 n0 Z0 ) hZ (hw _ (List.mem_of_getElem? (i := 3) rfl)) (hw _ (List.mem_of_getElem? (i := 2) rfl)) (by decide) (by decide)) (g := (mkF m 94 #[.val (.int p1), .val (.int p2), .val (.int ((8 : Int32) + (p1 % (8 : Int32)))), .val (.int (0 : Int32)), .val (.int (8 : Int32))] [(.int ((8 : Int32) + (p1 % (8 : Int32))))])) rfl (by rw [hml]; rfl) (argsL := [(.int ((8 : Int32) + (p1 % (8 : Int32))))]) (rest := []) (lenOf pd0_0 rfl) rfl (by show 2 * 0 + _ ≤ _; exact Nat.le_of_eq rfl) (hb hby at_94) (fun _ _ => ⟨rfl, e0, (by decide : 0 + 0 ≤ _), (by decide : 0 + 0 ≤ _)⟩)
                dsimp only [Pt.U, Pt.locs, Pt.cells, Pt.slots] at X23 l23 y23 z23 st23 hQ23
                subst l23 y23 z23
                obtain ⟨rfl, N23q, e23⟩ := hQ23
                have N23 := Fr.app N0 N23q
                refine go1 st23 ?_
                show Go p.tables e below T23 (mkF m 97 #[.val (.int p1), .val (.int p2), .val (.int ((8 : Int32) + (p1 % (8 : Int32)))), .val (.int (0 : Int32)), .val (.int (8 : Int32))] [(.int (own_1 ((8 : Int32) + (p1 % (8 : Int32)))))]) _
                refine go1 (fun _ => XS.iloadN X23.here hx rfl (hb hby at_97) rfl) ?_
                show Go p.tables e below T23 (mkF m 98 #[.val (.int p1), .val (.int p2), .val (.int ((8 : Int32) + (p1 % (8 : Int32)))), .val (.int (0 : Int32)), .val (.int (8 : Int32))] [(.int (0 : Int32)), (.int (own_1 ((8 : Int32) + (p1 % (8 : Int32)))))]) _
                by_cases hc24 : (own_1 ((8 : Int32) + (p1 % (8 : Int32)))) = (0 : Int32)
                · skip
                  refine go1 (fun _ => XS.icmpNo X23.here hx rfl (hb hby at_98) rfl (teq hc24).2) ?_
                  show Go p.tables e below T23 (mkF m 101 #[.val (.int p1), .val (.int p2), .val (.int ((8 : Int32) + (p1 % (8 : Int32)))), .val (.int (0 : Int32)), .val (.int (8 : Int32))] []) _
                  refine go1 (fun _ => XS.iconst X23.here hx rfl (hb hby at_101)) ?_
                  show Go p.tables e below T23 (mkF m 102 #[.val (.int p1), .val (.int p2), .val (.int ((8 : Int32) + (p1 % (8 : Int32)))), .val (.int (0 : Int32)), .val (.int (8 : Int32))] [(.int (1 : Int32))]) _
                  refine go1 (fun _ => XS.goto X23.here hx rfl (pc0 := 102) (pc' := 106) rfl (hb hby at_102) (by decide) (by decide)) ?_
                  show Go p.tables e below T23 (mkF m 106 #[.val (.int p1), .val (.int p2), .val (.int ((8 : Int32) + (p1 % (8 : Int32)))), .val (.int (0 : Int32)), .val (.int (8 : Int32))] [(.int (1 : Int32))]) _
                  refine goR X23 (BodyLoose.notSynchronized Bd) (v := (some (.int (1 : Int32)))) (fun h => by rw [Bd.returns] at h; cases h) (Q0 Z p1 p2 h0 n0) (fun fs hr => retN X23 hx (t := .boolean) Bd.returns (by simp) (hb hby at_106) hr) (by decide) (by decide) ?_
                  show Q0 Z p1 p2 h0 n0 _ T23.heap _
                  rw [e23]
                  exact ⟨(by rw [own_0, if_pos hc1, if_pos hc2, if_neg hc3, if_pos hc15, if_neg hc16, if_neg hc19, if_pos hc22, if_pos hc24]), N23⟩
                · skip
                  refine go1 (fun _ => XS.icmpYes X23.here hx rfl (pc0 := 98) (pc' := 105) rfl (hb hby at_98) rfl (feq hc24).2 (by decide) (by decide)) ?_
                  show Go p.tables e below T23 (mkF m 105 #[.val (.int p1), .val (.int p2), .val (.int ((8 : Int32) + (p1 % (8 : Int32)))), .val (.int (0 : Int32)), .val (.int (8 : Int32))] []) _
                  refine go1 (fun _ => XS.iconst X23.here hx rfl (hb hby at_105)) ?_
                  show Go p.tables e below T23 (mkF m 106 #[.val (.int p1), .val (.int p2), .val (.int ((8 : Int32) + (p1 % (8 : Int32)))), .val (.int (0 : Int32)), .val (.int (8 : Int32))] [(.int (0 : Int32))]) _
                  refine goR X23 (BodyLoose.notSynchronized Bd) (v := (some (.int (0 : Int32)))) (fun h => by rw [Bd.returns] at h; cases h) (Q0 Z p1 p2 h0 n0) (fun fs hr => retN X23 hx (t := .boolean) Bd.returns (by simp) (hb hby at_106) hr) (by decide) (by decide) ?_
                  show Q0 Z p1 p2 h0 n0 _ T23.heap _
                  rw [e23]
                  exact ⟨(by rw [own_0, if_pos hc1, if_pos hc2, if_neg hc3, if_pos hc15, if_neg hc16, if_neg hc19, if_pos hc22, if_neg hc24]), N23⟩
              · skip
                refine go1 (fun _ => XS.icmpNo X0.here hx rfl (hb hby at_84) rfl (flt hc22).2.2.1) ?_
                show Go p.tables e below s₁ (mkF m 87 #[.val (.int p1), .val (.int p2), .val (.int ((8 : Int32) + (p1 % (8 : Int32)))), .val (.int (((p2.toUInt32 >>> ((1 : Int32) &&& 31).toUInt32).toInt32) % (3 : Int32))), .val (.int (8 : Int32))] []) _
                refine go1 (fun _ => XS.iconst X0.here hx rfl (hb hby at_87)) ?_
                show Go p.tables e below s₁ (mkF m 88 #[.val (.int p1), .val (.int p2), .val (.int ((8 : Int32) + (p1 % (8 : Int32)))), .val (.int (((p2.toUInt32 >>> ((1 : Int32) &&& 31).toUInt32).toInt32) % (3 : Int32))), .val (.int (8 : Int32))] [(.int (1 : Int32))]) _
                refine go1 (fun _ => XS.goto X0.here hx rfl (pc0 := 88) (pc' := 92) rfl (hb hby at_88) (by decide) (by decide)) ?_
                show Go p.tables e below s₁ (mkF m 92 #[.val (.int p1), .val (.int p2), .val (.int ((8 : Int32) + (p1 % (8 : Int32)))), .val (.int (((p2.toUInt32 >>> ((1 : Int32) &&& 31).toUInt32).toInt32) % (3 : Int32))), .val (.int (8 : Int32))] [(.int (1 : Int32))]) _
                refine go1 (fun _ => XS.istoreN X0.here hx rfl (hb hby at_92) rfl (l' := #[.val (.int p1), .val (.int p2), .val (.int ((8 : Int32) + (p1 % (8 : Int32)))), .val (.int (1 : Int32)), .val (.int (8 : Int32))]) rfl) ?_
                show Go p.tables e below s₁ (mkF m 93 #[.val (.int p1), .val (.int p2), .val (.int ((8 : Int32) + (p1 % (8 : Int32)))), .val (.int (1 : Int32)), .val (.int (8 : Int32))] []) _
                refine go1 (fun _ => XS.iloadN X0.here hx rfl (hb hby at_93) rfl) ?_
                show Go p.tables e below s₁ (mkF m 94 #[.val (.int p1), .val (.int p2), .val (.int ((8 : Int32) + (p1 % (8 : Int32)))), .val (.int (1 : Int32)), .val (.int (8 : Int32))] [(.int ((8 : Int32) + (p1 % (8 : Int32))))]) _
                obtain ⟨_, _, ⟨T25, L25, k25, n25⟩, -, X25, ⟨Lc25, hQ25, l25, y25, z25⟩, st25⟩ := Jvm.LawKit.callS X0 hx (y := (⟨"com/example/isolatrix/isolatrix/TextCursor", "isLineBreak", "(I)Z"⟩ : MethodName)) hown (mvT hZ (hw _ (List.mem_of_getElem? (i := 0) rfl))) (mvT hZ (hw _ (List.mem_of_getElem? (i := 1) rfl))) (mvT hZ (hw _ (List.mem_of_getElem? (i := 2) rfl))) (mvT hZ (hw _ (List.mem_of_getElem? (i := 3) rfl))) (by decide) (backOf (W := 0) (rm1 l Z a0 hw [] ((8 : Int32) + (p1 % (8 : Int32))) h0 n0 Z0 ) hZ (hw _ (List.mem_of_getElem? (i := 3) rfl)) (hw _ (List.mem_of_getElem? (i := 2) rfl)) (by decide) (by decide)) (g := (mkF m 94 #[.val (.int p1), .val (.int p2), .val (.int ((8 : Int32) + (p1 % (8 : Int32)))), .val (.int (1 : Int32)), .val (.int (8 : Int32))] [(.int ((8 : Int32) + (p1 % (8 : Int32))))])) rfl (by rw [hml]; rfl) (argsL := [(.int ((8 : Int32) + (p1 % (8 : Int32))))]) (rest := []) (lenOf pd0_0 rfl) rfl (by show 2 * 0 + _ ≤ _; exact Nat.le_of_eq rfl) (hb hby at_94) (fun _ _ => ⟨rfl, e0, (by decide : 0 + 0 ≤ _), (by decide : 0 + 0 ≤ _)⟩)
                dsimp only [Pt.U, Pt.locs, Pt.cells, Pt.slots] at X25 l25 y25 z25 st25 hQ25
                subst l25 y25 z25
                obtain ⟨rfl, N25q, e25⟩ := hQ25
                have N25 := Fr.app N0 N25q
                refine go1 st25 ?_
                show Go p.tables e below T25 (mkF m 97 #[.val (.int p1), .val (.int p2), .val (.int ((8 : Int32) + (p1 % (8 : Int32)))), .val (.int (1 : Int32)), .val (.int (8 : Int32))] [(.int (own_1 ((8 : Int32) + (p1 % (8 : Int32)))))]) _
                refine go1 (fun _ => XS.iloadN X25.here hx rfl (hb hby at_97) rfl) ?_
                show Go p.tables e below T25 (mkF m 98 #[.val (.int p1), .val (.int p2), .val (.int ((8 : Int32) + (p1 % (8 : Int32)))), .val (.int (1 : Int32)), .val (.int (8 : Int32))] [(.int (1 : Int32)), (.int (own_1 ((8 : Int32) + (p1 % (8 : Int32)))))]) _
                by_cases hc26 : (own_1 ((8 : Int32) + (p1 % (8 : Int32)))) = (1 : Int32)
                · skip
                  refine go1 (fun _ => XS.icmpNo X25.here hx rfl (hb hby at_98) rfl (teq hc26).2) ?_
                  show Go p.tables e below T25 (mkF m 101 #[.val (.int p1), .val (.int p2), .val (.int ((8 : Int32) + (p1 % (8 : Int32)))), .val (.int (1 : Int32)), .val (.int (8 : Int32))] []) _
                  refine go1 (fun _ => XS.iconst X25.here hx rfl (hb hby at_101)) ?_
                  show Go p.tables e below T25 (mkF m 102 #[.val (.int p1), .val (.int p2), .val (.int ((8 : Int32) + (p1 % (8 : Int32)))), .val (.int (1 : Int32)), .val (.int (8 : Int32))] [(.int (1 : Int32))]) _
                  refine go1 (fun _ => XS.goto X25.here hx rfl (pc0 := 102) (pc' := 106) rfl (hb hby at_102) (by decide) (by decide)) ?_
                  show Go p.tables e below T25 (mkF m 106 #[.val (.int p1), .val (.int p2), .val (.int ((8 : Int32) + (p1 % (8 : Int32)))), .val (.int (1 : Int32)), .val (.int (8 : Int32))] [(.int (1 : Int32))]) _
                  refine goR X25 (BodyLoose.notSynchronized Bd) (v := (some (.int (1 : Int32)))) (fun h => by rw [Bd.returns] at h; cases h) (Q0 Z p1 p2 h0 n0) (fun fs hr => retN X25 hx (t := .boolean) Bd.returns (by simp) (hb hby at_106) hr) (by decide) (by decide) ?_
                  show Q0 Z p1 p2 h0 n0 _ T25.heap _
                  rw [e25]
                  exact ⟨(by rw [own_0, if_pos hc1, if_pos hc2, if_neg hc3, if_pos hc15, if_neg hc16, if_neg hc19, if_neg hc22, if_pos hc26]), N25⟩
                · skip
                  refine go1 (fun _ => XS.icmpYes X25.here hx rfl (pc0 := 98) (pc' := 105) rfl (hb hby at_98) rfl (feq hc26).2 (by decide) (by decide)) ?_
                  show Go p.tables e below T25 (mkF m 105 #[.val (.int p1), .val (.int p2), .val (.int ((8 : Int32) + (p1 % (8 : Int32)))), .val (.int (1 : Int32)), .val (.int (8 : Int32))] []) _
                  refine go1 (fun _ => XS.iconst X25.here hx rfl (hb hby at_105)) ?_
                  show Go p.tables e below T25 (mkF m 106 #[.val (.int p1), .val (.int p2), .val (.int ((8 : Int32) + (p1 % (8 : Int32)))), .val (.int (1 : Int32)), .val (.int (8 : Int32))] [(.int (0 : Int32))]) _
                  refine goR X25 (BodyLoose.notSynchronized Bd) (v := (some (.int (0 : Int32)))) (fun h => by rw [Bd.returns] at h; cases h) (Q0 Z p1 p2 h0 n0) (fun fs hr => retN X25 hx (t := .boolean) Bd.returns (by simp) (hb hby at_106) hr) (by decide) (by decide) ?_
                  show Q0 Z p1 p2 h0 n0 _ T25.heap _
                  rw [e25]
                  exact ⟨(by rw [own_0, if_pos hc1, if_pos hc2, if_neg hc3, if_pos hc15, if_neg hc16, if_neg hc19, if_neg hc22, if_neg hc26]), N25⟩
        · skip
          refine go1 (fun _ => XS.icmpYes X0.here hx rfl (pc0 := 63) (pc' := 87) rfl (hb hby at_63) rfl (flt hc15).2.2.2 (by decide) (by decide)) ?_
          show Go p.tables e below s₁ (mkF m 87 #[.val (.int p1), .val (.int p2), .val (.int ((8 : Int32) + (p1 % (8 : Int32)))), .val (.int (((p2.toUInt32 >>> ((1 : Int32) &&& 31).toUInt32).toInt32) % (3 : Int32))), .val (.int (8 : Int32))] []) _
          refine go1 (fun _ => XS.iconst X0.here hx rfl (hb hby at_87)) ?_
          show Go p.tables e below s₁ (mkF m 88 #[.val (.int p1), .val (.int p2), .val (.int ((8 : Int32) + (p1 % (8 : Int32)))), .val (.int (((p2.toUInt32 >>> ((1 : Int32) &&& 31).toUInt32).toInt32) % (3 : Int32))), .val (.int (8 : Int32))] [(.int (1 : Int32))]) _
          refine go1 (fun _ => XS.goto X0.here hx rfl (pc0 := 88) (pc' := 92) rfl (hb hby at_88) (by decide) (by decide)) ?_
          show Go p.tables e below s₁ (mkF m 92 #[.val (.int p1), .val (.int p2), .val (.int ((8 : Int32) + (p1 % (8 : Int32)))), .val (.int (((p2.toUInt32 >>> ((1 : Int32) &&& 31).toUInt32).toInt32) % (3 : Int32))), .val (.int (8 : Int32))] [(.int (1 : Int32))]) _
          refine go1 (fun _ => XS.istoreN X0.here hx rfl (hb hby at_92) rfl (l' := #[.val (.int p1), .val (.int p2), .val (.int ((8 : Int32) + (p1 % (8 : Int32)))), .val (.int (1 : Int32)), .val (.int (8 : Int32))]) rfl) ?_
          show Go p.tables e below s₁ (mkF m 93 #[.val (.int p1), .val (.int p2), .val (.int ((8 : Int32) + (p1 % (8 : Int32)))), .val (.int (1 : Int32)), .val (.int (8 : Int32))] []) _
          refine go1 (fun _ => XS.iloadN X0.here hx rfl (hb hby at_93) rfl) ?_
          show Go p.tables e below s₁ (mkF m 94 #[.val (.int p1), .val (.int p2), .val (.int ((8 : Int32) + (p1 % (8 : Int32)))), .val (.int (1 : Int32)), .val (.int (8 : Int32))] [(.int ((8 : Int32) + (p1 % (8 : Int32))))]) _
          obtain ⟨_, _, ⟨T27, L27, k27, n27⟩, -, X27, ⟨Lc27, hQ27, l27, y27, z27⟩, st27⟩ := Jvm.LawKit.callS X0 hx (y := (⟨"com/example/isolatrix/isolatrix/TextCursor", "isLineBreak", "(I)Z"⟩ : MethodName)) hown (mvT hZ (hw _ (List.mem_of_getElem? (i := 0) rfl))) (mvT hZ (hw _ (List.mem_of_getElem? (i := 1) rfl))) (mvT hZ (hw _ (List.mem_of_getElem? (i := 2) rfl))) (mvT hZ (hw _ (List.mem_of_getElem? (i := 3) rfl))) (by decide) (backOf (W := 0) (rm1 l Z a0 hw [] ((8 : Int32) + (p1 % (8 : Int32))) h0 n0 Z0 ) hZ (hw _ (List.mem_of_getElem? (i := 3) rfl)) (hw _ (List.mem_of_getElem? (i := 2) rfl)) (by decide) (by decide)) (g := (mkF m 94 #[.val (.int p1), .val (.int p2), .val (.int ((8 : Int32) + (p1 % (8 : Int32)))), .val (.int (1 : Int32)), .val (.int (8 : Int32))] [(.int ((8 : Int32) + (p1 % (8 : Int32))))])) rfl (by rw [hml]; rfl) (argsL := [(.int ((8 : Int32) + (p1 % (8 : Int32))))]) (rest := []) (lenOf pd0_0 rfl) rfl (by show 2 * 0 + _ ≤ _; exact Nat.le_of_eq rfl) (hb hby at_94) (fun _ _ => ⟨rfl, e0, (by decide : 0 + 0 ≤ _), (by decide : 0 + 0 ≤ _)⟩)
          dsimp only [Pt.U, Pt.locs, Pt.cells, Pt.slots] at X27 l27 y27 z27 st27 hQ27
          subst l27 y27 z27
          obtain ⟨rfl, N27q, e27⟩ := hQ27
          have N27 := Fr.app N0 N27q
          refine go1 st27 ?_
          show Go p.tables e below T27 (mkF m 97 #[.val (.int p1), .val (.int p2), .val (.int ((8 : Int32) + (p1 % (8 : Int32)))), .val (.int (1 : Int32)), .val (.int (8 : Int32))] [(.int (own_1 ((8 : Int32) + (p1 % (8 : Int32)))))]) _
          refine go1 (fun _ => XS.iloadN X27.here hx rfl (hb hby at_97) rfl) ?_
          show Go p.tables e below T27 (mkF m 98 #[.val (.int p1), .val (.int p2), .val (.int ((8 : Int32) + (p1 % (8 : Int32)))), .val (.int (1 : Int32)), .val (.int (8 : Int32))] [(.int (1 : Int32)), (.int (own_1 ((8 : Int32) + (p1 % (8 : Int32)))))]) _
          by_cases hc28 : (own_1 ((8 : Int32) + (p1 % (8 : Int32)))) = (1 : Int32)
          · skip
            refine go1 (fun _ => XS.icmpNo X27.here hx rfl (hb hby at_98) rfl (teq hc28).2) ?_
            show Go p.tables e below T27 (mkF m 101 #[.val (.int p1), .val (.int p2), .val (.int ((8 : Int32) + (p1 % (8 : Int32)))), .val (.int (1 : Int32)), .val (.int (8 : Int32))] []) _
            refine go1 (fun _ => XS.iconst X27.here hx rfl (hb hby at_101)) ?_
            show Go p.tables e below T27 (mkF m 102 #[.val (.int p1), .val (.int p2), .val (.int ((8 : Int32) + (p1 % (8 : Int32)))), .val (.int (1 : Int32)), .val (.int (8 : Int32))] [(.int (1 : Int32))]) _
            refine go1 (fun _ => XS.goto X27.here hx rfl (pc0 := 102) (pc' := 106) rfl (hb hby at_102) (by decide) (by decide)) ?_
            show Go p.tables e below T27 (mkF m 106 #[.val (.int p1), .val (.int p2), .val (.int ((8 : Int32) + (p1 % (8 : Int32)))), .val (.int (1 : Int32)), .val (.int (8 : Int32))] [(.int (1 : Int32))]) _
            refine goR X27 (BodyLoose.notSynchronized Bd) (v := (some (.int (1 : Int32)))) (fun h => by rw [Bd.returns] at h; cases h) (Q0 Z p1 p2 h0 n0) (fun fs hr => retN X27 hx (t := .boolean) Bd.returns (by simp) (hb hby at_106) hr) (by decide) (by decide) ?_
            show Q0 Z p1 p2 h0 n0 _ T27.heap _
            rw [e27]
            exact ⟨(by rw [own_0, if_pos hc1, if_pos hc2, if_neg hc3, if_neg hc15, if_pos hc28]), N27⟩
          · skip
            refine go1 (fun _ => XS.icmpYes X27.here hx rfl (pc0 := 98) (pc' := 105) rfl (hb hby at_98) rfl (feq hc28).2 (by decide) (by decide)) ?_
            show Go p.tables e below T27 (mkF m 105 #[.val (.int p1), .val (.int p2), .val (.int ((8 : Int32) + (p1 % (8 : Int32)))), .val (.int (1 : Int32)), .val (.int (8 : Int32))] []) _
            refine go1 (fun _ => XS.iconst X27.here hx rfl (hb hby at_105)) ?_
            show Go p.tables e below T27 (mkF m 106 #[.val (.int p1), .val (.int p2), .val (.int ((8 : Int32) + (p1 % (8 : Int32)))), .val (.int (1 : Int32)), .val (.int (8 : Int32))] [(.int (0 : Int32))]) _
            refine goR X27 (BodyLoose.notSynchronized Bd) (v := (some (.int (0 : Int32)))) (fun h => by rw [Bd.returns] at h; cases h) (Q0 Z p1 p2 h0 n0) (fun fs hr => retN X27 hx (t := .boolean) Bd.returns (by simp) (hb hby at_106) hr) (by decide) (by decide) ?_
            show Q0 Z p1 p2 h0 n0 _ T27.heap _
            rw [e27]
            exact ⟨(by rw [own_0, if_pos hc1, if_pos hc2, if_neg hc3, if_neg hc15, if_neg hc28]), N27⟩
    · skip
      refine go1 (fun _ => XS.ifYes X0.here hx rfl (pc0 := 18) (pc' := 28) rfl (hb hby at_18) rfl ((if0 _ _).trans (feq hc2).2) (by decide) (by decide)) ?_
      show Go p.tables e below s₁ (mkF m 28 #[.val (.int p1), .val (.int p2), .unset, .val (.int (((p2.toUInt32 >>> ((1 : Int32) &&& 31).toUInt32).toInt32) % (3 : Int32))), .unset] []) _
      refine go1 (fun _ => XS.iloadN X0.here hx rfl (hb hby at_28) rfl) ?_
      show Go p.tables e below s₁ (mkF m 29 #[.val (.int p1), .val (.int p2), .unset, .val (.int (((p2.toUInt32 >>> ((1 : Int32) &&& 31).toUInt32).toInt32) % (3 : Int32))), .unset] [(.int (((p2.toUInt32 >>> ((1 : Int32) &&& 31).toUInt32).toInt32) % (3 : Int32)))]) _
      refine go1 (fun _ => XS.iconst X0.here hx rfl (hb hby at_29)) ?_
      show Go p.tables e below s₁ (mkF m 30 #[.val (.int p1), .val (.int p2), .unset, .val (.int (((p2.toUInt32 >>> ((1 : Int32) &&& 31).toUInt32).toInt32) % (3 : Int32))), .unset] [(.int (1 : Int32)), (.int (((p2.toUInt32 >>> ((1 : Int32) &&& 31).toUInt32).toInt32) % (3 : Int32)))]) _
      by_cases hc29 : (((p2.toUInt32 >>> ((1 : Int32) &&& 31).toUInt32).toInt32) % (3 : Int32)) = (1 : Int32)
      · skip
        refine go1 (fun _ => XS.icmpNo X0.here hx rfl (hb hby at_30) rfl (teq hc29).2) ?_
        show Go p.tables e below s₁ (mkF m 33 #[.val (.int p1), .val (.int p2), .unset, .val (.int (((p2.toUInt32 >>> ((1 : Int32) &&& 31).toUInt32).toInt32) % (3 : Int32))), .unset] []) _
        refine go1 (fun _ => XS.sipush X0.here hx rfl (hb hby at_33)) ?_
        show Go p.tables e below s₁ (mkF m 36 #[.val (.int p1), .val (.int p2), .unset, .val (.int (((p2.toUInt32 >>> ((1 : Int32) &&& 31).toUInt32).toInt32) % (3 : Int32))), .unset] [(.int (131 : Int32))]) _
        refine go1 (fun _ => XS.istore X0.here hx rfl (hb hby at_36) rfl (l' := #[.val (.int p1), .val (.int p2), .unset, .val (.int (((p2.toUInt32 >>> ((1 : Int32) &&& 31).toUInt32).toInt32) % (3 : Int32))), .val (.int (131 : Int32))]) rfl) ?_
        show Go p.tables e below s₁ (mkF m 38 #[.val (.int p1), .val (.int p2), .unset, .val (.int (((p2.toUInt32 >>> ((1 : Int32) &&& 31).toUInt32).toInt32) % (3 : Int32))), .val (.int (131 : Int32))] []) _
        refine go1 (fun _ => XS.goto X0.here hx rfl (pc0 := 38) (pc' := 46) rfl (hb hby at_38) (by decide) (by decide)) ?_
        show Go p.tables e below s₁ (mkF m 46 #[.val (.int p1), .val (.int p2), .unset, .val (.int (((p2.toUInt32 >>> ((1 : Int32) &&& 31).toUInt32).toInt32) % (3 : Int32))), .val (.int (131 : Int32))] []) _
        refine go1 (fun _ => XS.iload X0.here hx rfl (hb hby at_46) rfl) ?_
        show Go p.tables e below s₁ (mkF m 48 #[.val (.int p1), .val (.int p2), .unset, .val (.int (((p2.toUInt32 >>> ((1 : Int32) &&& 31).toUInt32).toInt32) % (3 : Int32))), .val (.int (131 : Int32))] [(.int (131 : Int32))]) _
        refine go1 (fun _ => XS.iloadN X0.here hx rfl (hb hby at_48) rfl) ?_
        show Go p.tables e below s₁ (mkF m 49 #[.val (.int p1), .val (.int p2), .unset, .val (.int (((p2.toUInt32 >>> ((1 : Int32) &&& 31).toUInt32).toInt32) % (3 : Int32))), .val (.int (131 : Int32))] [(.int p1), (.int (131 : Int32))]) _
        refine go1 (fun _ => XS.bipush X0.here hx rfl (hb hby at_49)) ?_
        show Go p.tables e below s₁ (mkF m 51 #[.val (.int p1), .val (.int p2), .unset, .val (.int (((p2.toUInt32 >>> ((1 : Int32) &&& 31).toUInt32).toInt32) % (3 : Int32))), .val (.int (131 : Int32))] [(.int (8 : Int32)), (.int p1), (.int (131 : Int32))]) _
        refine go1 (fun _ => XS.irem X0.here hx rfl (hb hby at_51) rfl (by decide)) ?_
        rw [irem_eq_mod p1 (8 : Int32)]
        show Go p.tables e below s₁ (mkF m 52 #[.val (.int p1), .val (.int p2), .unset, .val (.int (((p2.toUInt32 >>> ((1 : Int32) &&& 31).toUInt32).toInt32) % (3 : Int32))), .val (.int (131 : Int32))] [(.int (p1 % (8 : Int32))), (.int (131 : Int32))]) _
        refine go1 (fun _ => XS.iadd X0.here hx rfl (hb hby at_52) rfl) ?_
        show Go p.tables e below s₁ (mkF m 53 #[.val (.int p1), .val (.int p2), .unset, .val (.int (((p2.toUInt32 >>> ((1 : Int32) &&& 31).toUInt32).toInt32) % (3 : Int32))), .val (.int (131 : Int32))] [(.int ((131 : Int32) + (p1 % (8 : Int32))))]) _
        refine go1 (fun _ => XS.istoreN X0.here hx rfl (hb hby at_53) rfl (l' := #[.val (.int p1), .val (.int p2), .val (.int ((131 : Int32) + (p1 % (8 : Int32)))), .val (.int (((p2.toUInt32 >>> ((1 : Int32) &&& 31).toUInt32).toInt32) % (3 : Int32))), .val (.int (131 : Int32))]) rfl) ?_
        show Go p.tables e below s₁ (mkF m 54 #[.val (.int p1), .val (.int p2), .val (.int ((131 : Int32) + (p1 % (8 : Int32)))), .val (.int (((p2.toUInt32 >>> ((1 : Int32) &&& 31).toUInt32).toInt32) % (3 : Int32))), .val (.int (131 : Int32))] []) _
        refine go1 (fun _ => XS.iloadN X0.here hx rfl (hb hby at_54) rfl) ?_
        show Go p.tables e below s₁ (mkF m 55 #[.val (.int p1), .val (.int p2), .val (.int ((131 : Int32) + (p1 % (8 : Int32)))), .val (.int (((p2.toUInt32 >>> ((1 : Int32) &&& 31).toUInt32).toInt32) % (3 : Int32))), .val (.int (131 : Int32))] [(.int ((131 : Int32) + (p1 % (8 : Int32))))]) _
        refine go1 (fun _ => XS.bipush X0.here hx rfl (hb hby at_55)) ?_
        show Go p.tables e below s₁ (mkF m 57 #[.val (.int p1), .val (.int p2), .val (.int ((131 : Int32) + (p1 % (8 : Int32)))), .val (.int (((p2.toUInt32 >>> ((1 : Int32) &&& 31).toUInt32).toInt32) % (3 : Int32))), .val (.int (131 : Int32))] [(.int (10 : Int32)), (.int ((131 : Int32) + (p1 % (8 : Int32))))]) _
        by_cases hc30 : ((131 : Int32) + (p1 % (8 : Int32))) < (10 : Int32)
        · skip
          refine go1 (fun _ => XS.icmpYes X0.here hx rfl (pc0 := 57) (pc' := 66) rfl (hb hby at_57) rfl (tlt hc30).1 (by decide) (by decide)) ?_
          show Go p.tables e below s₁ (mkF m 66 #[.val (.int p1), .val (.int p2), .val (.int ((131 : Int32) + (p1 % (8 : Int32)))), .val (.int (((p2.toUInt32 >>> ((1 : Int32) &&& 31).toUInt32).toInt32) % (3 : Int32))), .val (.int (131 : Int32))] []) _
          refine go1 (fun _ => XS.iloadN X0.here hx rfl (hb hby at_66) rfl) ?_
          show Go p.tables e below s₁ (mkF m 67 #[.val (.int p1), .val (.int p2), .val (.int ((131 : Int32) + (p1 % (8 : Int32)))), .val (.int (((p2.toUInt32 >>> ((1 : Int32) &&& 31).toUInt32).toInt32) % (3 : Int32))), .val (.int (131 : Int32))] [(.int ((131 : Int32) + (p1 % (8 : Int32))))]) _
          refine go1 (fun _ => XS.sipush X0.here hx rfl (hb hby at_67)) ?_
          show Go p.tables e below s₁ (mkF m 70 #[.val (.int p1), .val (.int p2), .val (.int ((131 : Int32) + (p1 % (8 : Int32)))), .val (.int (((p2.toUInt32 >>> ((1 : Int32) &&& 31).toUInt32).toInt32) % (3 : Int32))), .val (.int (131 : Int32))] [(.int (133 : Int32)), (.int ((131 : Int32) + (p1 % (8 : Int32))))]) _
          by_cases hc31 : ((131 : Int32) + (p1 % (8 : Int32))) = (133 : Int32)
          · skip
            refine go1 (fun _ => XS.icmpYes X0.here hx rfl (pc0 := 70) (pc' := 87) rfl (hb hby at_70) rfl (teq hc31).1 (by decide) (by decide)) ?_
            show Go p.tables e below s₁ (mkF m 87 #[.val (.int p1), .val (.int p2), .val (.int ((131 : Int32) + (p1 % (8 : Int32)))), .val (.int (((p2.toUInt32 >>> ((1 : Int32) &&& 31).toUInt32).toInt32) % (3 : Int32))), .val (.int (131 : Int32))] []) _
            refine go1 (fun _ => XS.iconst X0.here hx rfl (hb hby at_87)) ?_
            show Go p.tables e below s₁ (mkF m 88 #[.val (.int p1), .val (.int p2), .val (.int ((131 : Int32) + (p1 % (8 : Int32)))), .val (.int (((p2.toUInt32 >>> ((1 : Int32) &&& 31).toUInt32).toInt32) % (3 : Int32))), .val (.int (131 : Int32))] [(.int (1 : Int32))]) _
            refine go1 (fun _ => XS.goto X0.here hx rfl (pc0 := 88) (pc' := 92) rfl (hb hby at_88) (by decide) (by decide)) ?_
            show Go p.tables e below s₁ (mkF m 92 #[.val (.int p1), .val (.int p2), .val (.int ((131 : Int32) + (p1 % (8 : Int32)))), .val (.int (((p2.toUInt32 >>> ((1 : Int32) &&& 31).toUInt32).toInt32) % (3 : Int32))), .val (.int (131 : Int32))] [(.int (1 : Int32))]) _
            refine go1 (fun _ => XS.istoreN X0.here hx rfl (hb hby at_92) rfl (l' := #[.val (.int p1), .val (.int p2), .val (.int ((131 : Int32) + (p1 % (8 : Int32)))), .val (.int (1 : Int32)), .val (.int (131 : Int32))]) rfl) ?_
            show Go p.tables e below s₁ (mkF m 93 #[.val (.int p1), .val (.int p2), .val (.int ((131 : Int32) + (p1 % (8 : Int32)))), .val (.int (1 : Int32)), .val (.int (131 : Int32))] []) _
            refine go1 (fun _ => XS.iloadN X0.here hx rfl (hb hby at_93) rfl) ?_
            show Go p.tables e below s₁ (mkF m 94 #[.val (.int p1), .val (.int p2), .val (.int ((131 : Int32) + (p1 % (8 : Int32)))), .val (.int (1 : Int32)), .val (.int (131 : Int32))] [(.int ((131 : Int32) + (p1 % (8 : Int32))))]) _
            obtain ⟨_, _, ⟨T32, L32, k32, n32⟩, -, X32, ⟨Lc32, hQ32, l32, y32, z32⟩, st32⟩ := Jvm.LawKit.callS X0 hx (y := (⟨"com/example/isolatrix/isolatrix/TextCursor", "isLineBreak", "(I)Z"⟩ : MethodName)) hown (mvT hZ (hw _ (List.mem_of_getElem? (i := 0) rfl))) (mvT hZ (hw _ (List.mem_of_getElem? (i := 1) rfl))) (mvT hZ (hw _ (List.mem_of_getElem? (i := 2) rfl))) (mvT hZ (hw _ (List.mem_of_getElem? (i := 3) rfl))) (by decide) (backOf (W := 0) (rm1 l Z a0 hw [] ((131 : Int32) + (p1 % (8 : Int32))) h0 n0 Z0 ) hZ (hw _ (List.mem_of_getElem? (i := 3) rfl)) (hw _ (List.mem_of_getElem? (i := 2) rfl)) (by decide) (by decide)) (g := (mkF m 94 #[.val (.int p1), .val (.int p2), .val (.int ((131 : Int32) + (p1 % (8 : Int32)))), .val (.int (1 : Int32)), .val (.int (131 : Int32))] [(.int ((131 : Int32) + (p1 % (8 : Int32))))])) rfl (by rw [hml]; rfl) (argsL := [(.int ((131 : Int32) + (p1 % (8 : Int32))))]) (rest := []) (lenOf pd0_0 rfl) rfl (by show 2 * 0 + _ ≤ _; exact Nat.le_of_eq rfl) (hb hby at_94) (fun _ _ => ⟨rfl, e0, (by decide : 0 + 0 ≤ _), (by decide : 0 + 0 ≤ _)⟩)
            dsimp only [Pt.U, Pt.locs, Pt.cells, Pt.slots] at X32 l32 y32 z32 st32 hQ32
            subst l32 y32 z32
            obtain ⟨rfl, N32q, e32⟩ := hQ32
            have N32 := Fr.app N0 N32q
            refine go1 st32 ?_
            show Go p.tables e below T32 (mkF m 97 #[.val (.int p1), .val (.int p2), .val (.int ((131 : Int32) + (p1 % (8 : Int32)))), .val (.int (1 : Int32)), .val (.int (131 : Int32))] [(.int (own_1 ((131 : Int32) + (p1 % (8 : Int32)))))]) _
            refine go1 (fun _ => XS.iloadN X32.here hx rfl (hb hby at_97) rfl) ?_
            show Go p.tables e below T32 (mkF m 98 #[.val (.int p1), .val (.int p2), .val (.int ((131 : Int32) + (p1 % (8 : Int32)))), .val (.int (1 : Int32)), .val (.int (131 : Int32))] [(.int (1 : Int32)), (.int (own_1 ((131 : Int32) + (p1 % (8 : Int32)))))]) _
            by_cases hc33 : (own_1 ((131 : Int32) + (p1 % (8 : Int32)))) = (1 : Int32)
            · skip
              refine go1 (fun _ => XS.icmpNo X32.here hx rfl (hb hby at_98) rfl (teq hc33).2) ?_
              show Go p.tables e below T32 (mkF m 101 #[.val (.int p1), .val (.int p2), .val (.int ((131 : Int32) + (p1 % (8 : Int32)))), .val (.int (1 : Int32)), .val (.int (131 : Int32))] []) _
              refine go1 (fun _ => XS.iconst X32.here hx rfl (hb hby at_101)) ?_
              show Go p.tables e below T32 (mkF m 102 #[.val (.int p1), .val (.int p2), .val (.int ((131 : Int32) + (p1 % (8 : Int32)))), .val (.int (1 : Int32)), .val (.int (131 : Int32))] [(.int (1 : Int32))]) _
              refine go1 (fun _ => XS.goto X32.here hx rfl (pc0 := 102) (pc' := 106) rfl (hb hby at_102) (by decide) (by decide)) ?_
              show Go p.tables e below T32 (mkF m 106 #[.val (.int p1), .val (.int p2), .val (.int ((131 : Int32) + (p1 % (8 : Int32)))), .val (.int (1 : Int32)), .val (.int (131 : Int32))] [(.int (1 : Int32))]) _
              refine goR X32 (BodyLoose.notSynchronized Bd) (v := (some (.int (1 : Int32)))) (fun h => by rw [Bd.returns] at h; cases h) (Q0 Z p1 p2 h0 n0) (fun fs hr => retN X32 hx (t := .boolean) Bd.returns (by simp) (hb hby at_106) hr) (by decide) (by decide) ?_
              show Q0 Z p1 p2 h0 n0 _ T32.heap _
              rw [e32]
              exact ⟨(by rw [own_0, if_pos hc1, if_neg hc2, if_pos hc29, if_pos hc30, if_pos hc31, if_pos hc33]), N32⟩
            · skip
              refine go1 (fun _ => XS.icmpYes X32.here hx rfl (pc0 := 98) (pc' := 105) rfl (hb hby at_98) rfl (feq hc33).2 (by decide) (by decide)) ?_
              show Go p.tables e below T32 (mkF m 105 #[.val (.int p1), .val (.int p2), .val (.int ((131 : Int32) + (p1 % (8 : Int32)))), .val (.int (1 : Int32)), .val (.int (131 : Int32))] []) _
              refine go1 (fun _ => XS.iconst X32.here hx rfl (hb hby at_105)) ?_
              show Go p.tables e below T32 (mkF m 106 #[.val (.int p1), .val (.int p2), .val (.int ((131 : Int32) + (p1 % (8 : Int32)))), .val (.int (1 : Int32)), .val (.int (131 : Int32))] [(.int (0 : Int32))]) _
              refine goR X32 (BodyLoose.notSynchronized Bd) (v := (some (.int (0 : Int32)))) (fun h => by rw [Bd.returns] at h; cases h) (Q0 Z p1 p2 h0 n0) (fun fs hr => retN X32 hx (t := .boolean) Bd.returns (by simp) (hb hby at_106) hr) (by decide) (by decide) ?_
              show Q0 Z p1 p2 h0 n0 _ T32.heap _
              rw [e32]
              exact ⟨(by rw [own_0, if_pos hc1, if_neg hc2, if_pos hc29, if_pos hc30, if_pos hc31, if_neg hc33]), N32⟩
          · skip
            refine go1 (fun _ => XS.icmpNo X0.here hx rfl (hb hby at_70) rfl (feq hc31).1) ?_
            show Go p.tables e below s₁ (mkF m 73 #[.val (.int p1), .val (.int p2), .val (.int ((131 : Int32) + (p1 % (8 : Int32)))), .val (.int (((p2.toUInt32 >>> ((1 : Int32) &&& 31).toUInt32).toInt32) % (3 : Int32))), .val (.int (131 : Int32))] []) _
            refine go1 (fun _ => XS.iloadN X0.here hx rfl (hb hby at_73) rfl) ?_
            show Go p.tables e below s₁ (mkF m 74 #[.val (.int p1), .val (.int p2), .val (.int ((131 : Int32) + (p1 % (8 : Int32)))), .val (.int (((p2.toUInt32 >>> ((1 : Int32) &&& 31).toUInt32).toInt32) % (3 : Int32))), .val (.int (131 : Int32))] [(.int ((131 : Int32) + (p1 % (8 : Int32))))]) _
            refine go1 (fun _ => XS.sipush X0.here hx rfl (hb hby at_74)) ?_
            show Go p.tables e below s₁ (mkF m 77 #[.val (.int p1), .val (.int p2), .val (.int ((131 : Int32) + (p1 % (8 : Int32)))), .val (.int (((p2.toUInt32 >>> ((1 : Int32) &&& 31).toUInt32).toInt32) % (3 : Int32))), .val (.int (131 : Int32))] [(.int (8232 : Int32)), (.int ((131 : Int32) + (p1 % (8 : Int32))))]) _
            by_cases hc34 : ((131 : Int32) + (p1 % (8 : Int32))) < (8232 : Int32)
            · skip
              refine go1 (fun _ => XS.icmpYes X0.here hx rfl (pc0 := 77) (pc' := 91) rfl (hb hby at_77) rfl (tlt hc34).1 (by decide) (by decide)) ?_
              show Go p.tables e below s₁ (mkF m 91 #[.val (.int p1), .val (.int p2), .val (.int ((131 : Int32) + (p1 % (8 : Int32)))), .val (.int (((p2.toUInt32 >>> ((1 : Int32) &&& 31).toUInt32).toInt32) % (3 : Int32))), .val (.int (131 : Int32))] []) _
              refine go1 (fun _ => XS.iconst X0.here hx rfl (hb hby at_91)) ?_
              show Go p.tables e below s₁ (mkF m 92 #[.val (.int p1), .val (.int p2), .val (.int ((131 : Int32) + (p1 % (8 : Int32)))), .val (.int (((p2.toUInt32 >>> ((1 : Int32) &&& 31).toUInt32).toInt32) % (3 : Int32))), .val (.int (131 : Int32))] [(.int (0 : Int32))]) _
              refine go1 (fun _ => XS.istoreN X0.here hx rfl (hb hby at_92) rfl (l' := #[.val (.int p1), .val (.int p2), .val (.int ((131 : Int32) + (p1 % (8 : Int32)))), .val (.int (0 : Int32)), .val (.int (131 : Int32))]) rfl) ?_
              show Go p.tables e below s₁ (mkF m 93 #[.val (.int p1), .val (.int p2), .val (.int ((131 : Int32) + (p1 % (8 : Int32)))), .val (.int (0 : Int32)), .val (.int (131 : Int32))] []) _
              refine go1 (fun _ => XS.iloadN X0.here hx rfl (hb hby at_93) rfl) ?_
              show Go p.tables e below s₁ (mkF m 94 #[.val (.int p1), .val (.int p2), .val (.int ((131 : Int32) + (p1 % (8 : Int32)))), .val (.int (0 : Int32)), .val (.int (131 : Int32))] [(.int ((131 : Int32) + (p1 % (8 : Int32))))]) _
              obtain ⟨_, _, ⟨T35, L35, k35, n35⟩, -, X35, ⟨Lc35, hQ35, l35, y35, z35⟩, st35⟩ := Jvm.LawKit.callS X0 hx (y := (⟨"com/example/isolatrix/isolatrix/TextCursor", "isLineBreak", "(I)Z"⟩ : MethodName)) hown (mvT hZ (hw _ (List.mem_of_getElem? (i := 0) rfl))) (mvT hZ (hw _ (List.mem_of_getElem? (i := 1) rfl))) (mvT hZ (hw _ (List.mem_of_getElem? (i := 2) rfl))) (mvT hZ (hw _ (List.mem_of_getElem? (i := 3) rfl))) (by decide) (backOf (W := 0) (rm1 l Z a0 hw [] ((131 : Int32) + (p1 % (8 : Int32))) h0 n0 Z0 ) hZ (hw _ (List.mem_of_getElem? (i := 3) rfl)) (hw _ (List.mem_of_getElem? (i := 2) rfl)) (by decide) (by decide)) (g := (mkF m 94 #[.val (.int p1), .val (.int p2), .val (.int ((131 : Int32) + (p1 % (8 : Int32)))), .val (.int (0 : Int32)), .val (.int (131 : Int32))] [(.int ((131 : Int32) + (p1 % (8 : Int32))))])) rfl (by rw [hml]; rfl) (argsL := [(.int ((131 : Int32) + (p1 % (8 : Int32))))]) (rest := []) (lenOf pd0_0 rfl) rfl (by show 2 * 0 + _ ≤ _; exact Nat.le_of_eq rfl) (hb hby at_94) (fun _ _ => ⟨rfl, e0, (by decide : 0 + 0 ≤ _), (by decide : 0 + 0 ≤ _)⟩)
              dsimp only [Pt.U, Pt.locs, Pt.cells, Pt.slots] at X35 l35 y35 z35 st35 hQ35
              subst l35 y35 z35
              obtain ⟨rfl, N35q, e35⟩ := hQ35
              have N35 := Fr.app N0 N35q
              refine go1 st35 ?_
              show Go p.tables e below T35 (mkF m 97 #[.val (.int p1), .val (.int p2), .val (.int ((131 : Int32) + (p1 % (8 : Int32)))), .val (.int (0 : Int32)), .val (.int (131 : Int32))] [(.int (own_1 ((131 : Int32) + (p1 % (8 : Int32)))))]) _
              refine go1 (fun _ => XS.iloadN X35.here hx rfl (hb hby at_97) rfl) ?_
              show Go p.tables e below T35 (mkF m 98 #[.val (.int p1), .val (.int p2), .val (.int ((131 : Int32) + (p1 % (8 : Int32)))), .val (.int (0 : Int32)), .val (.int (131 : Int32))] [(.int (0 : Int32)), (.int (own_1 ((131 : Int32) + (p1 % (8 : Int32)))))]) _
              by_cases hc36 : (own_1 ((131 : Int32) + (p1 % (8 : Int32)))) = (0 : Int32)
              · skip
                refine go1 (fun _ => XS.icmpNo X35.here hx rfl (hb hby at_98) rfl (teq hc36).2) ?_
                show Go p.tables e below T35 (mkF m 101 #[.val (.int p1), .val (.int p2), .val (.int ((131 : Int32) + (p1 % (8 : Int32)))), .val (.int (0 : Int32)), .val (.int (131 : Int32))] []) _
                refine go1 (fun _ => XS.iconst X35.here hx rfl (hb hby at_101)) ?_
                show Go p.tables e below T35 (mkF m 102 #[.val (.int p1), .val (.int p2), .val (.int ((131 : Int32) + (p1 % (8 : Int32)))), .val (.int (0 : Int32)), .val (.int (131 : Int32))] [(.int (1 : Int32))]) _
                refine go1 (fun _ => XS.goto X35.here hx rfl (pc0 := 102) (pc' := 106) rfl (hb hby at_102) (by decide) (by decide)) ?_
                show Go p.tables e below T35 (mkF m 106 #[.val (.int p1), .val (.int p2), .val (.int ((131 : Int32) + (p1 % (8 : Int32)))), .val (.int (0 : Int32)), .val (.int (131 : Int32))] [(.int (1 : Int32))]) _
                refine goR X35 (BodyLoose.notSynchronized Bd) (v := (some (.int (1 : Int32)))) (fun h => by rw [Bd.returns] at h; cases h) (Q0 Z p1 p2 h0 n0) (fun fs hr => retN X35 hx (t := .boolean) Bd.returns (by simp) (hb hby at_106) hr) (by decide) (by decide) ?_
                show Q0 Z p1 p2 h0 n0 _ T35.heap _
                rw [e35]
                exact ⟨(by rw [own_0, if_pos hc1, if_neg hc2, if_pos hc29, if_pos hc30, if_neg hc31, if_pos hc34, if_pos hc36]), N35⟩
              · skip
                refine go1 (fun _ => XS.icmpYes X35.here hx rfl (pc0 := 98) (pc' := 105) rfl (hb hby at_98) rfl (feq hc36).2 (by decide) (by decide)) ?_
                show Go p.tables e below T35 (mkF m 105 #[.val (.int p1), .val (.int p2), .val (.int ((131 : Int32) + (p1 % (8 : Int32)))), .val (.int (0 : Int32)), .val (.int (131 : Int32))] []) _
                refine go1 (fun _ => XS.iconst X35.here hx rfl (hb hby at_105)) ?_
                show Go p.tables e below T35 (mkF m 106 #[.val (.int p1), .val (.int p2), .val (.int ((131 : Int32) + (p1 % (8 : Int32)))), .val (.int (0 : Int32)), .val (.int (131 : Int32))] [(.int (0 : Int32))]) _
                refine goR X35 (BodyLoose.notSynchronized Bd) (v := (some (.int (0 : Int32)))) (fun h => by rw [Bd.returns] at h; cases h) (Q0 Z p1 p2 h0 n0) (fun fs hr => retN X35 hx (t := .boolean) Bd.returns (by simp) (hb hby at_106) hr) (by decide) (by decide) ?_
                show Q0 Z p1 p2 h0 n0 _ T35.heap _
                rw [e35]
                exact ⟨(by rw [own_0, if_pos hc1, if_neg hc2, if_pos hc29, if_pos hc30, if_neg hc31, if_pos hc34, if_neg hc36]), N35⟩
            · skip
              refine go1 (fun _ => XS.icmpNo X0.here hx rfl (hb hby at_77) rfl (flt hc34).1) ?_
              show Go p.tables e below s₁ (mkF m 80 #[.val (.int p1), .val (.int p2), .val (.int ((131 : Int32) + (p1 % (8 : Int32)))), .val (.int (((p2.toUInt32 >>> ((1 : Int32) &&& 31).toUInt32).toInt32) % (3 : Int32))), .val (.int (131 : Int32))] []) _
              refine go1 (fun _ => XS.iloadN X0.here hx rfl (hb hby at_80) rfl) ?_
              show Go p.tables e below s₁ (mkF m 81 #[.val (.int p1), .val (.int p2), .val (.int ((131 : Int32) + (p1 % (8 : Int32)))), .val (.int (((p2.toUInt32 >>> ((1 : Int32) &&& 31).toUInt32).toInt32) % (3 : Int32))), .val (.int (131 : Int32))] [(.int ((131 : Int32) + (p1 % (8 : Int32))))]) _
              refine go1 (fun _ => XS.sipush X0.here hx rfl (hb hby at_81)) ?_
              show Go p.tables e below s₁ (mkF m 84 #[.val (.int p1), .val (.int p2), .val (.int ((131 : Int32) + (p1 % (8 : Int32)))), .val (.int (((p2.toUInt32 >>> ((1 : Int32) &&& 31).toUInt32).toInt32) % (3 : Int32))), .val (.int (131 : Int32))] [(.int (8233 : Int32)), (.int ((131 : Int32) + (p1 % (8 : Int32))))]) _
              by_cases hc37 : (8233 : Int32) < ((131 : Int32) + (p1 % (8 : Int32)))
              · skip
                refine go1 (fun _ => XS.icmpYes X0.here hx rfl (pc0 := 84) (pc' := 91) rfl (hb hby at_84) rfl (tlt hc37).2.2.1 (by decide) (by decide)) ?_
                show Go p.tables e below s₁ (mkF m 91 #[.val (.int p1), .val (.int p2), .val (.int ((131 : Int32) + (p1 % (8 : Int32)))), .val (.int (((p2.toUInt32 >>> ((1 : Int32) &&& 31).toUInt32).toInt32) % (3 : Int32))), .val (.int (131 : Int32))] []) _
                refine go1 (fun _ => XS.iconst X0.here hx rfl (hb hby at_91)) ?_
                show Go p.tables e below s₁ (mkF m 92 #[.val (.int p1), .val (.int p2), .val (.int ((131 : Int32) + (p1 % (8 : Int32)))), .val (.int (((p2.toUInt32 >>> ((1 : Int32) &&& 31).toUInt32).toInt32) % (3 : Int32))), .val (.int (131 : Int32))] [(.int (0 : Int32))]) _
                refine go1 (fun _ => XS.istoreN X0.here hx rfl (hb hby at_92) rfl (l' := #[.val (.int p1), .val (.int p2), .val (.int ((131 : Int32) + (p1 % (8 : Int32)))), .val (.int (0 : Int32)), .val (.int (131 : Int32))]) rfl) ?_
                show Go p.tables e below s₁ (mkF m 93 #[.val (.int p1), .val (.int p2), .val (.int ((131 : Int32) + (p1 % (8 : Int32)))), .val (.int (0 : Int32)), .val (.int (131 : Int32))] []) _
                refine go1 (fun _ => XS.iloadN X0.here hx rfl (hb hby at_93) rfl) ?_
                show Go p.tables e below s₁ (mkF m 94 #[.val (.int p1), .val (.int p2), .val (.int ((131 : Int32) + (p1 % (8 : Int32)))), .val (.int (0 : Int32)), .val (.int (131 : Int32))] [(.int ((131 : Int32) + (p1 % (8 : Int32))))]) _
                obtain ⟨_, _, ⟨T38, L38, k38, n38⟩, -, X38, ⟨Lc38, hQ38, l38, y38, z38⟩, st38⟩ := Jvm.LawKit.callS X0 hx (y := (⟨"com/example/isolatrix/isolatrix/TextCursor", "isLineBreak", "(I)Z"⟩ : MethodName)) hown (mvT hZ (hw _ (List.mem_of_getElem? (i := 0) rfl))) (mvT hZ (hw _ (List.mem_of_getElem? (i := 1) rfl))) (mvT hZ (hw _ (List.mem_of_getElem? (i := 2) rfl))) (mvT hZ (hw _ (List.mem_of_getElem? (i := 3) rfl))) (by decide) (backOf (W := 0) (rm1 l Z a0 hw [] ((131 : Int32) + (p1 % (8 : Int32))) h0 n0 Z0 ) hZ (hw _ (List.mem_of_getElem? (i := 3) rfl)) (hw _ (List.mem_of_getElem? (i := 2) rfl)) (by decide) (by decide)) (g := (mkF m 94 #[.val (.int p1), .val (.int p2), .val (.int ((131 : Int32) + (p1 % (8 : Int32)))), .val (.int (0 : Int32)), .val (.int (131 : Int32))] [(.int ((131 : Int32) + (p1 % (8 : Int32))))])) rfl (by rw [hml]; rfl) (argsL := [(.int ((131 : Int32) + (p1 % (8 : Int32))))]) (rest := []) (lenOf pd0_0 rfl) rfl (by show 2 * 0 + _ ≤ _; exact Nat.le_of_eq rfl) (hb hby at_94) (fun _ _ => ⟨rfl, e0, (by decide : 0 + 0 ≤ _), (by decide : 0 + 0 ≤ _)⟩)
                dsimp only [Pt.U, Pt.locs, Pt.cells, Pt.slots] at X38 l38 y38 z38 st38 hQ38
                subst l38 y38 z38
                obtain ⟨rfl, N38q, e38⟩ := hQ38
                have N38 := Fr.app N0 N38q
                refine go1 st38 ?_
                show Go p.tables e below T38 (mkF m 97 #[.val (.int p1), .val (.int p2), .val (.int ((131 : Int32) + (p1 % (8 : Int32)))), .val (.int (0 : Int32)), .val (.int (131 : Int32))] [(.int (own_1 ((131 : Int32) + (p1 % (8 : Int32)))))]) _
                refine go1 (fun _ => XS.iloadN X38.here hx rfl (hb hby at_97) rfl) ?_
                show Go p.tables e below T38 (mkF m 98 #[.val (.int p1), .val (.int p2), .val (.int ((131 : Int32) + (p1 % (8 : Int32)))), .val (.int (0 : Int32)), .val (.int (131 : Int32))] [(.int (0 : Int32)), (.int (own_1 ((131 : Int32) + (p1 % (8 : Int32)))))]) _
                by_cases hc39 : (own_1 ((131 : Int32) + (p1 % (8 : Int32)))) = (0 : Int32)
                · skip
                  refine go1 (fun _ => XS.icmpNo X38.here hx rfl (hb hby at_98) rfl (teq hc39).2) ?_
                  show Go p.tables e below T38 (mkF m 101 #[.val (.int p1), .val (.int p2), .val (.int ((131 : Int32) + (p1 % (8 : Int32)))), .val (.int (0 : Int32)), .val (.int (131 : Int32))] []) _
                  refine go1 (fun _ => XS.iconst X38.here hx rfl (hb hby at_101)) ?_
                  show Go p.tables e below T38 (mkF m 102 #[.val (.int p1), .val (.int p2), .val (.int ((131 : Int32) + (p1 % (8 : Int32)))), .val (.int (0 : Int32)), .val (.int (131 : Int32))] [(.int (1 : Int32))]) _
                  refine go1 (fun _ => XS.goto X38.here hx rfl (pc0 := 102) (pc' := 106) rfl (hb hby at_102) (by decide) (by decide)) ?_
                  show Go p.tables e below T38 (mkF m 106 #[.val (.int p1), .val (.int p2), .val (.int ((131 : Int32) + (p1 % (8 : Int32)))), .val (.int (0 : Int32)), .val (.int (131 : Int32))] [(.int (1 : Int32))]) _
                  refine goR X38 (BodyLoose.notSynchronized Bd) (v := (some (.int (1 : Int32)))) (fun h => by rw [Bd.returns] at h; cases h) (Q0 Z p1 p2 h0 n0) (fun fs hr => retN X38 hx (t := .boolean) Bd.returns (by simp) (hb hby at_106) hr) (by decide) (by decide) ?_
                  show Q0 Z p1 p2 h0 n0 _ T38.heap _
                  rw [e38]
                  exact ⟨(by rw [own_0, if_pos hc1, if_neg hc2, if_pos hc29, if_pos hc30, if_neg hc31, if_neg hc34, if_pos hc37, if_pos hc39]), N38⟩
                · skip
                  refine go1 (fun _ => XS.icmpYes X38.here hx rfl (pc0 := 98) (pc' := 105) rfl (hb hby at_98) rfl (feq hc39).2 (by decide) (by decide)) ?_
                  show Go p.tables e below T38 (mkF m 105 #[.val (.int p1), .val (.int p2), .val (.int ((131 : Int32) + (p1 % (8 : Int32)))), .val (.int (0 : Int32)), .val (.int (131 : Int32))] []) _
                  refine go1 (fun _ => XS.iconst X38.here hx rfl (hb hby at_105)) ?_
                  show Go p.tables e below T38 (mkF m 106 #[.val (.int p1), .val (.int p2), .val (.int ((131 : Int32) + (p1 % (8 : Int32)))), .val (.int (0 : Int32)), .val (.int (131 : Int32))] [(.int (0 : Int32))]) _
                  refine goR X38 (BodyLoose.notSynchronized Bd) (v := (some (.int (0 : Int32)))) (fun h => by rw [Bd.returns] at h; cases h) (Q0 Z p1 p2 h0 n0) (fun fs hr => retN X38 hx (t := .boolean) Bd.returns (by simp) (hb hby at_106) hr) (by decide) (by decide) ?_
                  show Q0 Z p1 p2 h0 n0 _ T38.heap _
                  rw [e38]
                  exact ⟨(by rw [own_0, if_pos hc1, if_neg hc2, if_pos hc29, if_pos hc30, if_neg hc31, if_neg hc34, if_pos hc37, if_neg hc39]), N38⟩
              · skip
                refine go1 (fun _ => XS.icmpNo X0.here hx rfl (hb hby at_84) rfl (flt hc37).2.2.1) ?_
                show Go p.tables e below s₁ (mkF m 87 #[.val (.int p1), .val (.int p2), .val (.int ((131 : Int32) + (p1 % (8 : Int32)))), .val (.int (((p2.toUInt32 >>> ((1 : Int32) &&& 31).toUInt32).toInt32) % (3 : Int32))), .val (.int (131 : Int32))] []) _
                refine go1 (fun _ => XS.iconst X0.here hx rfl (hb hby at_87)) ?_
                show Go p.tables e below s₁ (mkF m 88 #[.val (.int p1), .val (.int p2), .val (.int ((131 : Int32) + (p1 % (8 : Int32)))), .val (.int (((p2.toUInt32 >>> ((1 : Int32) &&& 31).toUInt32).toInt32) % (3 : Int32))), .val (.int (131 : Int32))] [(.int (1 : Int32))]) _
                refine go1 (fun _ => XS.goto X0.here hx rfl (pc0 := 88) (pc' := 92) rfl (hb hby at_88) (by decide) (by decide)) ?_
                show Go p.tables e below s₁ (mkF m 92 #[.val (.int p1), .val (.int p2), .val (.int ((131 : Int32) + (p1 % (8 : Int32)))), .val (.int (((p2.toUInt32 >>> ((1 : Int32) &&& 31).toUInt32).toInt32) % (3 : Int32))), .val (.int (131 : Int32))] [(.int (1 : Int32))]) _
                refine go1 (fun _ => XS.istoreN X0.here hx rfl (hb hby at_92) rfl (l' := #[.val (.int p1), .val (.int p2), .val (.int ((131 : Int32) + (p1 % (8 : Int32)))), .val (.int (1 : Int32)), .val (.int (131 : Int32))]) rfl) ?_
                show Go p.tables e below s₁ (mkF m 93 #[.val (.int p1), .val (.int p2), .val (.int ((131 : Int32) + (p1 % (8 : Int32)))), .val (.int (1 : Int32)), .val (.int (131 : Int32))] []) _
                refine go1 (fun _ => XS.iloadN X0.here hx rfl (hb hby at_93) rfl) ?_
                show Go p.tables e below s₁ (mkF m 94 #[.val (.int p1), .val (.int p2), .val (.int ((131 : Int32) + (p1 % (8 : Int32)))), .val (.int (1 : Int32)), .val (.int (131 : Int32))] [(.int ((131 : Int32) + (p1 % (8 : Int32))))]) _
                obtain ⟨_, _, ⟨T40, L40, k40, n40⟩, -, X40, ⟨Lc40, hQ40, l40, y40, z40⟩, st40⟩ := Jvm.LawKit.callS X0 hx (y := (⟨"com/example/isolatrix/isolatrix/TextCursor", "isLineBreak", "(I)Z"⟩ : MethodName)) hown (mvT hZ (hw _ (List.mem_of_getElem? (i := 0) rfl))) (mvT hZ (hw _ (List.mem_of_getElem? (i := 1) rfl))) (mvT hZ (hw _ (List.mem_of_getElem? (i := 2) rfl))) (mvT hZ (hw _ (List.mem_of_getElem? (i := 3) rfl))) (by decide) (backOf (W := 0) (rm1 l Z a0 hw [] ((131 : Int32) + (p1 % (8 : Int32))) h0 n0 Z0 ) hZ (hw _ (List.mem_of_getElem? (i := 3) rfl)) (hw _ (List.mem_of_getElem? (i := 2) rfl)) (by decide) (by decide)) (g := (mkF m 94 #[.val (.int p1), .val (.int p2), .val (.int ((131 : Int32) + (p1 % (8 : Int32)))), .val (.int (1 : Int32)), .val (.int (131 : Int32))] [(.int ((131 : Int32) + (p1 % (8 : Int32))))])) rfl (by rw [hml]; rfl) (argsL := [(.int ((131 : Int32) + (p1 % (8 : Int32))))]) (rest := []) (lenOf pd0_0 rfl) rfl (by show 2 * 0 + _ ≤ _; exact Nat.le_of_eq rfl) (hb hby at_94) (fun _ _ => ⟨rfl, e0, (by decide : 0 + 0 ≤ _), (by decide : 0 + 0 ≤ _)⟩)
                dsimp only [Pt.U, Pt.locs, Pt.cells, Pt.slots] at X40 l40 y40 z40 st40 hQ40
                subst l40 y40 z40
                obtain ⟨rfl, N40q, e40⟩ := hQ40
                have N40 := Fr.app N0 N40q
                refine go1 st40 ?_
                show Go p.tables e below T40 (mkF m 97 #[.val (.int p1), .val (.int p2), .val (.int ((131 : Int32) + (p1 % (8 : Int32)))), .val (.int (1 : Int32)), .val (.int (131 : Int32))] [(.int (own_1 ((131 : Int32) + (p1 % (8 : Int32)))))]) _
                refine go1 (fun _ => XS.iloadN X40.here hx rfl (hb hby at_97) rfl) ?_
                show Go p.tables e below T40 (mkF m 98 #[.val (.int p1), .val (.int p2), .val (.int ((131 : Int32) + (p1 % (8 : Int32)))), .val (.int (1 : Int32)), .val (.int (131 : Int32))] [(.int (1 : Int32)), (.int (own_1 ((131 : Int32) + (p1 % (8 : Int32)))))]) _
                by_cases hc41 : (own_1 ((131 : Int32) + (p1 % (8 : Int32)))) = (1 : Int32)
                · skip
                  refine go1 (fun _ => XS.icmpNo X40.here hx rfl (hb hby at_98) rfl (teq hc41).2) ?_
                  show Go p.tables e below T40 (mkF m 101 #[.val (.int p1), .val (.int p2), .val (.int ((131 : Int32) + (p1 % (8 : Int32)))), .val (.int (1 : Int32)), .val (.int (131 : Int32))] []) _
                  refine go1 (fun _ => XS.iconst X40.here hx rfl (hb hby at_101)) ?_
                  show Go p.tables e below T40 (mkF m 102 #[.val (.int p1), .val (.int p2), .val (.int ((131 : Int32) + (p1 % (8 : Int32)))), .val (.int (1 : Int32)), .val (.int (131 : Int32))] [(.int (1 : Int32))]) _
                  refine go1 (fun _ => XS.goto X40.here hx rfl (pc0 := 102) (pc' := 106) rfl (hb hby at_102) (by decide) (by decide)) ?_
                  show Go p.tables e below T40 (mkF m 106 #[.val (.int p1), .val (.int p2), .val (.int ((131 : Int32) + (p1 % (8 : Int32)))), .val (.int (1 : Int32)), .val (.int (131 : Int32))] [(.int (1 : Int32))]) _
                  refine goR X40 (BodyLoose.notSynchronized Bd) (v := (some (.int (1 : Int32)))) (fun h => by rw [Bd.returns] at h; cases h) (Q0 Z p1 p2 h0 n0) (fun fs hr => retN X40 hx (t := .boolean) Bd.returns (by simp) (hb hby at_106) hr) (by decide) (by decide) ?_
                  show Q0 Z p1 p2 h0 n0 _ T40.heap _
                  rw [e40]
                  exact ⟨(by rw [own_0, if_pos hc1, if_neg hc2, if_pos hc29, if_pos hc30, if_neg hc31, if_neg hc34, if_neg hc37, if_pos hc41]), N40⟩
                · skip
                  refine go1 (fun _ => XS.icmpYes X40.here hx rfl (pc0 := 98) (pc' := 105) rfl (hb hby at_98) rfl (feq hc41).2 (by decide) (by decide)) ?_
                  show Go p.tables e below T40 (mkF m 105 #[.val (.int p1), .val (.int p2), .val (.int ((131 : Int32) + (p1 % (8 : Int32)))), .val (.int (1 : Int32)), .val (.int (131 : Int32))] []) _
                  refine go1 (fun _ => XS.iconst X40.here hx rfl (hb hby at_105)) ?_
                  show Go p.tables e below T40 (mkF m 106 #[.val (.int p1), .val (.int p2), .val (.int ((131 : Int32) + (p1 % (8 : Int32)))), .val (.int (1 : Int32)), .val (.int (131 : Int32))] [(.int (0 : Int32))]) _
                  refine goR X40 (BodyLoose.notSynchronized Bd) (v := (some (.int (0 : Int32)))) (fun h => by rw [Bd.returns] at h; cases h) (Q0 Z p1 p2 h0 n0) (fun fs hr => retN X40 hx (t := .boolean) Bd.returns (by simp) (hb hby at_106) hr) (by decide) (by decide) ?_
                  show Q0 Z p1 p2 h0 n0 _ T40.heap _
                  rw [e40]
                  exact ⟨(by rw [own_0, if_pos hc1, if_neg hc2, if_pos hc29, if_pos hc30, if_neg hc31, if_neg hc34, if_neg hc37, if_neg hc41]), N40⟩
        · skip
          refine go1 (fun _ => XS.icmpNo X0.here hx rfl (hb hby at_57) rfl (flt hc30).1) ?_
          show Go p.tables e below s₁ (mkF m 60 #[.val (.int p1), .val (.int p2), .val (.int ((131 : Int32) + (p1 % (8 : Int32)))), .val (.int (((p2.toUInt32 >>> ((1 : Int32) &&& 31).toUInt32).toInt32) % (3 : Int32))), .val (.int (131 : Int32))] []) _
          refine go1 (fun _ => XS.iloadN X0.here hx rfl (hb hby at_60) rfl) ?_
          show Go p.tables e below s₁ (mkF m 61 #[.val (.int p1), .val (.int p2), .val (.int ((131 : Int32) + (p1 % (8 : Int32)))), .val (.int (((p2.toUInt32 >>> ((1 : Int32) &&& 31).toUInt32).toInt32) % (3 : Int32))), .val (.int (131 : Int32))] [(.int ((131 : Int32) + (p1 % (8 : Int32))))]) _
          refine go1 (fun _ => XS.bipush X0.here hx rfl (hb hby at_61)) ?_
          show Go p.tables e below s₁ (mkF m 63 #[.val (.int p1), .val (.int p2), .val (.int ((131 : Int32) + (p1 % (8 : Int32)))), .val (.int (((p2.toUInt32 >>> ((1 : Int32) &&& 31).toUInt32).toInt32) % (3 : Int32))), .val (.int (131 : Int32))] [(.int (13 : Int32)), (.int ((131 : Int32) + (p1 % (8 : Int32))))]) _
          by_cases hc42 : (13 : Int32) < ((131 : Int32) + (p1 % (8 : Int32)))
          · skip
            refine go1 (fun _ => XS.icmpNo X0.here hx rfl (hb hby at_63) rfl (tlt hc42).2.2.2) ?_
            show Go p.tables e below s₁ (mkF m 66 #[.val (.int p1), .val (.int p2), .val (.int ((131 : Int32) + (p1 % (8 : Int32)))), .val (.int (((p2.toUInt32 >>> ((1 : Int32) &&& 31).toUInt32).toInt32) % (3 : Int32))), .val (.int (131 : Int32))] []) _
            refine go1 (fun _ => XS.iloadN X0.here hx rfl (hb hby at_66) rfl) ?_
            show Go p.tables e below s₁ (mkF m 67 #[.val (.int p1), .val (.int p2), .val (.int ((131 : Int32) + (p1 % (8 : Int32)))), .val (.int (((p2.toUInt32 >>> ((1 : Int32) &&& 31).toUInt32).toInt32) % (3 : Int32))), .val (.int (131 : Int32))] [(.int ((131 : Int32) + (p1 % (8 : Int32))))]) _
            refine go1 (fun _ => XS.sipush X0.here hx rfl (hb hby at_67)) ?_
            show Go p.tables e below s₁ (mkF m 70 #[.val (.int p1), .val (.int p2), .val (.int ((131 : Int32) + (p1 % (8 : Int32)))), .val (.int (((p2.toUInt32 >>> ((1 : Int32) &&& 31).toUInt32).toInt32) % (3 : Int32))), .val (.int (131 : Int32))] [(.int (133 : Int32)), (.int ((131 : Int32) + (p1 % (8 : Int32))))]) _
            by_cases hc43 : ((131 : Int32) + (p1 % (8 : Int32))) = (133 : Int32)
            · skip
              refine go1 (fun _ => XS.icmpYes X0.here hx rfl (pc0 := 70) (pc' := 87) rfl (hb hby at_70) rfl (teq hc43).1 (by decide) (by decide)) ?_
              show Go p.tables e below s₁ (mkF m 87 #[.val (.int p1), .val (.int p2), .val (.int ((131 : Int32) + (p1 % (8 : Int32)))), .val (.int (((p2.toUInt32 >>> ((1 : Int32) &&& 31).toUInt32).toInt32) % (3 : Int32))), .val (.int (131 : Int32))] []) _
              refine go1 (fun _ => XS.iconst X0.here hx rfl (hb hby at_87)) ?_
              show Go p.tables e below s₁ (mkF m 88 #[.val (.int p1), .val (.int p2), .val (.int ((131 : Int32) + (p1 % (8 : Int32)))), .val (.int (((p2.toUInt32 >>> ((1 : Int32) &&& 31).toUInt32).toInt32) % (3 : Int32))), .val (.int (131 : Int32))] [(.int (1 : Int32))]) _
              refine go1 (fun _ => XS.goto X0.here hx rfl (pc0 := 88) (pc' := 92) rfl (hb hby at_88) (by decide) (by decide)) ?_
              show Go p.tables e below s₁ (mkF m 92 #[.val (.int p1), .val (.int p2), .val (.int ((131 : Int32) + (p1 % (8 : Int32)))), .val (.int (((p2.toUInt32 >>> ((1 : Int32) &&& 31).toUInt32).toInt32) % (3 : Int32))), .val (.int (131 : Int32))] [(.int (1 : Int32))]) _
              refine go1 (fun _ => XS.istoreN X0.here hx rfl (hb hby at_92) rfl (l' := #[.val (.int p1), .val (.int p2), .val (.int ((131 : Int32) + (p1 % (8 : Int32)))), .val (.int (1 : Int32)), .val (.int (131 : Int32))]) rfl) ?_
              show Go p.tables e below s₁ (mkF m 93 #[.val (.int p1), .val (.int p2), .val (.int ((131 : Int32) + (p1 % (8 : Int32)))), .val (.int (1 : Int32)), .val (.int (131 : Int32))] []) _
              refine go1 (fun _ => XS.iloadN X0.here hx rfl (hb hby at_93) rfl) ?_
              show Go p.tables e below s₁ (mkF m 94 #[.val (.int p1), .val (.int p2), .val (.int ((131 : Int32) + (p1 % (8 : Int32)))), .val (.int (1 : Int32)), .val (.int (131 : Int32))] [(.int ((131 : Int32) + (p1 % (8 : Int32))))]) _
              obtain ⟨_, _, ⟨T44, L44, k44, n44⟩, -, X44, ⟨Lc44, hQ44, l44, y44, z44⟩, st44⟩ := Jvm.LawKit.callS X0 hx (y := (⟨"com/example/isolatrix/isolatrix/TextCursor", "isLineBreak", "(I)Z"⟩ : MethodName)) hown (mvT hZ (hw _ (List.mem_of_getElem? (i := 0) rfl))) (mvT hZ (hw _ (List.mem_of_getElem? (i := 1) rfl))) (mvT hZ (hw _ (List.mem_of_getElem? (i := 2) rfl))) (mvT hZ (hw _ (List.mem_of_getElem? (i := 3) rfl))) (by decide) (backOf (W := 0) (rm1 l Z a0 hw [] ((131 : Int32) + (p1 % (8 : Int32))) h0 n0 Z0 ) hZ (hw _ (List.mem_of_getElem? (i := 3) rfl)) (hw _ (List.mem_of_getElem? (i := 2) rfl)) (by decide) (by decide)) (g := (mkF m 94 #[.val (.int p1), .val (.int p2), .val (.int ((131 : Int32) + (p1 % (8 : Int32)))), .val (.int (1 : Int32)), .val (.int (131 : Int32))] [(.int ((131 : Int32) + (p1 % (8 : Int32))))])) rfl (by rw [hml]; rfl) (argsL := [(.int ((131 : Int32) + (p1 % (8 : Int32))))]) (rest := []) (lenOf pd0_0 rfl) rfl (by show 2 * 0 + _ ≤ _; exact Nat.le_of_eq rfl) (hb hby at_94) (fun _ _ => ⟨rfl, e0, (by decide : 0 + 0 ≤ _), (by decide : 0 + 0 ≤ _)⟩)
              dsimp only [Pt.U, Pt.locs, Pt.cells, Pt.slots] at X44 l44 y44 z44 st44 hQ44
              subst l44 y44 z44
              obtain ⟨rfl, N44q, e44⟩ := hQ44
              have N44 := Fr.app N0 N44q
              refine go1 st44 ?_
              show Go p.tables e below T44 (mkF m 97 #[.val (.int p1), .val (.int p2), .val (.int ((131 : Int32) + (p1 % (8 : Int32)))), .val (.int (1 : Int32)), .val (.int (131 : Int32))] [(.int (own_1 ((131 : Int32) + (p1 % (8 : Int32)))))]) _
              refine go1 (fun _ => XS.iloadN X44.here hx rfl (hb hby at_97) rfl) ?_
              show Go p.tables e below T44 (mkF m 98 #[.val (.int p1), .val (.int p2), .val (.int ((131 : Int32) + (p1 % (8 : Int32)))), .val (.int (1 : Int32)), .val (.int (131 : Int32))] [(.int (1 : Int32)), (.int (own_1 ((131 : Int32) + (p1 % (8 : Int32)))))]) _
              by_cases hc45 : (own_1 ((131 : Int32) + (p1 % (8 : Int32)))) = (1 : Int32)
              · skip
                refine go1 (fun _ => XS.icmpNo X44.here hx rfl (hb hby at_98) rfl (teq hc45).2) ?_
                show Go p.tables e below T44 (mkF m 101 #[.val (.int p1), .val (.int p2), .val (.int ((131 : Int32) + (p1 % (8 : Int32)))), .val (.int (1 : Int32)), .val (.int (131 : Int32))] []) _
                refine go1 (fun _ => XS.iconst X44.here hx rfl (hb hby at_101)) ?_
                show Go p.tables e below T44 (mkF m 102 #[.val (.int p1), .val (.int p2), .val (.int ((131 : Int32) + (p1 % (8 : Int32)))), .val (.int (1 : Int32)), .val (.int (131 : Int32))] [(.int (1 : Int32))]) _
                refine go1 (fun _ => XS.goto X44.here hx rfl (pc0 := 102) (pc' := 106) rfl (hb hby at_102) (by decide) (by decide)) ?_
                show Go p.tables e below T44 (mkF m 106 #[.val (.int p1), .val (.int p2), .val (.int ((131 : Int32) + (p1 % (8 : Int32)))), .val (.int (1 : Int32)), .val (.int (131 : Int32))] [(.int (1 : Int32))]) _
                refine goR X44 (BodyLoose.notSynchronized Bd) (v := (some (.int (1 : Int32)))) (fun h => by rw [Bd.returns] at h; cases h) (Q0 Z p1 p2 h0 n0) (fun fs hr => retN X44 hx (t := .boolean) Bd.returns (by simp) (hb hby at_106) hr) (by decide) (by decide) ?_
                show Q0 Z p1 p2 h0 n0 _ T44.heap _
                rw [e44]
                exact ⟨(by rw [own_0, if_pos hc1, if_neg hc2, if_pos hc29, if_neg hc30, if_pos hc42, if_pos hc43, if_pos hc45]), N44⟩
              · skip
                refine go1 (fun _ => XS.icmpYes X44.here hx rfl (pc0 := 98) (pc' := 105) rfl (hb hby at_98) rfl (feq hc45).2 (by decide) (by decide)) ?_
                show Go p.tables e below T44 (mkF m 105 #[.val (.int p1), .val (.int p2), .val (.int ((131 : Int32) + (p1 % (8 : Int32)))), .val (.int (1 : Int32)), .val (.int (131 : Int32))] []) _
                refine go1 (fun _ => XS.iconst X44.here hx rfl (hb hby at_105)) ?_
                show Go p.tables e below T44 (mkF m 106 #[.val (.int p1), .val (.int p2), .val (.int ((131 : Int32) + (p1 % (8 : Int32)))), .val (.int (1 : Int32)), .val (.int (131 : Int32))] [(.int (0 : Int32))]) _
                refine goR X44 (BodyLoose.notSynchronized Bd) (v := (some (.int (0 : Int32)))) (fun h => by rw [Bd.returns] at h; cases h) (Q0 Z p1 p2 h0 n0) (fun fs hr => retN X44 hx (t := .boolean) Bd.returns (by simp) (hb hby at_106) hr) (by decide) (by decide) ?_
                show Q0 Z p1 p2 h0 n0 _ T44.heap _
                rw [e44]
                exact ⟨(by rw [own_0, if_pos hc1, if_neg hc2, if_pos hc29, if_neg hc30, if_pos hc42, if_pos hc43, if_neg hc45]), N44⟩
            · skip
              refine go1 (fun _ => XS.icmpNo X0.here hx rfl (hb hby at_70) rfl (feq hc43).1) ?_
              show Go p.tables e below s₁ (mkF m 73 #[.val (.int p1), .val (.int p2), .val (.int ((131 : Int32) + (p1 % (8 : Int32)))), .val (.int (((p2.toUInt32 >>> ((1 : Int32) &&& 31).toUInt32).toInt32) % (3 : Int32))), .val (.int (131 : Int32))] []) _
              refine go1 (fun _ => XS.iloadN X0.here hx rfl (hb hby at_73) rfl) ?_
              show Go p.tables e below s₁ (mkF m 74 #[.val (.int p1), .val (.int p2), .val (.int ((131 : Int32) + (p1 % (8 : Int32)))), .val (.int (((p2.toUInt32 >>> ((1 : Int32) &&& 31).toUInt32).toInt32) % (3 : Int32))), .val (.int (131 : Int32))] [(.int ((131 : Int32) + (p1 % (8 : Int32))))]) _
              refine go1 (fun _ => XS.sipush X0.here hx rfl (hb hby at_74)) ?_
              show Go p.tables e below s₁ (mkF m 77 #[.val (.int p1), .val (.int p2), .val (.int ((131 : Int32) + (p1 % (8 : Int32)))), .val (.int (((p2.toUInt32 >>> ((1 : Int32) &&& 31).toUInt32).toInt32) % (3 : Int32))), .val (.int (131 : Int32))] [(.int (8232 : Int32)), (.int ((131 : Int32) + (p1 % (8 : Int32))))]) _
              by_cases hc46 : ((131 : Int32) + (p1 % (8 : Int32))) < (8232 : Int32)
              · skip
                refine go1 (fun _ => XS.icmpYes X0.here hx rfl (pc0 := 77) (pc' := 91) rfl (hb hby at_77) rfl (tlt hc46).1 (by decide) (by decide)) ?_
                show Go p.tables e below s₁ (mkF m 91 #[.val (.int p1), .val (.int p2), .val (.int ((131 : Int32) + (p1 % (8 : Int32)))), .val (.int (((p2.toUInt32 >>> ((1 : Int32) &&& 31).toUInt32).toInt32) % (3 : Int32))), .val (.int (131 : Int32))] []) _
                refine go1 (fun _ => XS.iconst X0.here hx rfl (hb hby at_91)) ?_
                show Go p.tables e below s₁ (mkF m 92 #[.val (.int p1), .val (.int p2), .val (.int ((131 : Int32) + (p1 % (8 : Int32)))), .val (.int (((p2.toUInt32 >>> ((1 : Int32) &&& 31).toUInt32).toInt32) % (3 : Int32))), .val (.int (131 : Int32))] [(.int (0 : Int32))]) _
                refine go1 (fun _ => XS.istoreN X0.here hx rfl (hb hby at_92) rfl (l' := #[.val (.int p1), .val (.int p2), .val (.int ((131 : Int32) + (p1 % (8 : Int32)))), .val (.int (0 : Int32)), .val (.int (131 : Int32))]) rfl) ?_
                show Go p.tables e below s₁ (mkF m 93 #[.val (.int p1), .val (.int p2), .val (.int ((131 : Int32) + (p1 % (8 : Int32)))), .val (.int (0 : Int32)), .val (.int (131 : Int32))] []) _
                refine go1 (fun _ => XS.iloadN X0.here hx rfl (hb hby at_93) rfl) ?_
                show Go p.tables e below s₁ (mkF m 94 #[.val (.int p1), .val (.int p2), .val (.int ((131 : Int32) + (p1 % (8 : Int32)))), .val (.int (0 : Int32)), .val (.int (131 : Int32))] [(.int ((131 : Int32) + (p1 % (8 : Int32))))]) _
                obtain ⟨_, _, ⟨T47, L47, k47, n47⟩, -, X47, ⟨Lc47, hQ47, l47, y47, z47⟩, st47⟩ := Jvm.LawKit.callS X0 hx (y := (⟨"com/example/isolatrix/isolatrix/TextCursor", "isLineBreak", "(I)Z"⟩ : MethodName)) hown (mvT hZ (hw _ (List.mem_of_getElem? (i := 0) rfl))) (mvT hZ (hw _ (List.mem_of_getElem? (i := 1) rfl))) (mvT hZ (hw _ (List.mem_of_getElem? (i := 2) rfl))) (mvT hZ (hw _ (List.mem_of_getElem? (i := 3) rfl))) (by decide) (backOf (W := 0) (rm1 l Z a0 hw [] ((131 : Int32) + (p1 % (8 : Int32))) h0 n0 Z0 ) hZ (hw _ (List.mem_of_getElem? (i := 3) rfl)) (hw _ (List.mem_of_getElem? (i := 2) rfl)) (by decide) (by decide)) (g := (mkF m 94 #[.val (.int p1), .val (.int p2), .val (.int ((131 : Int32) + (p1 % (8 : Int32)))), .val (.int (0 : Int32)), .val (.int (131 : Int32))] [(.int ((131 : Int32) + (p1 % (8 : Int32))))])) rfl (by rw [hml]; rfl) (argsL := [(.int ((131 : Int32) + (p1 % (8 : Int32))))]) (rest := []) (lenOf pd0_0 rfl) rfl (by show 2 * 0 + _ ≤ _; exact Nat.le_of_eq rfl) (hb hby at_94) (fun _ _ => ⟨rfl, e0, (by decide : 0 + 0 ≤ _), (by decide : 0 + 0 ≤ _)⟩)
                dsimp only [Pt.U, Pt.locs, Pt.cells, Pt.slots] at X47 l47 y47 z47 st47 hQ47
                subst l47 y47 z47
                obtain ⟨rfl, N47q, e47⟩ := hQ47
                have N47 := Fr.app N0 N47q
                refine go1 st47 ?_
                show Go p.tables e below T47 (mkF m 97 #[.val (.int p1), .val (.int p2), .val (.int ((131 : Int32) + (p1 % (8 : Int32)))), .val (.int (0 : Int32)), .val (.int (131 : Int32))] [(.int (own_1 ((131 : Int32) + (p1 % (8 : Int32)))))]) _
                refine go1 (fun _ => XS.iloadN X47.here hx rfl (hb hby at_97) rfl) ?_
                show Go p.tables e below T47 (mkF m 98 #[.val (.int p1), .val (.int p2), .val (.int ((131 : Int32) + (p1 % (8 : Int32)))), .val (.int (0 : Int32)), .val (.int (131 : Int32))] [(.int (0 : Int32)), (.int (own_1 ((131 : Int32) + (p1 % (8 : Int32)))))]) _
                by_cases hc48 : (own_1 ((131 : Int32) + (p1 % (8 : Int32)))) = (0 : Int32)
                · skip
                  refine go1 (fun _ => XS.icmpNo X47.here hx rfl (hb hby at_98) rfl (teq hc48).2) ?_
                  show Go p.tables e below T47 (mkF m 101 #[.val (.int p1), .val (.int p2), .val (.int ((131 : Int32) + (p1 % (8 : Int32)))), .val (.int (0 : Int32)), .val (.int (131 : Int32))] []) _
                  refine go1 (fun _ => XS.iconst X47.here hx rfl (hb hby at_101)) ?_
                  show Go p.tables e below T47 (mkF m 102 #[.val (.int p1), .val (.int p2), .val (.int ((131 : Int32) + (p1 % (8 : Int32)))), .val (.int (0 : Int32)), .val (.int (131 : Int32))] [(.int (1 : Int32))]) _
                  refine go1 (fun _ => XS.goto X47.here hx rfl (pc0 := 102) (pc' := 106) rfl (hb hby at_102) (by decide) (by decide)) ?_
                  show Go p.tables e below T47 (mkF m 106 #[.val (.int p1), .val (.int p2), .val (.int ((131 : Int32) + (p1 % (8 : Int32)))), .val (.int (0 : Int32)), .val (.int (131 : Int32))] [(.int (1 : Int32))]) _
                  refine goR X47 (BodyLoose.notSynchronized Bd) (v := (some (.int (1 : Int32)))) (fun h => by rw [Bd.returns] at h; cases h) (Q0 Z p1 p2 h0 n0) (fun fs hr => retN X47 hx (t := .boolean) Bd.returns (by simp) (hb hby at_106) hr) (by decide) (by decide) ?_
                  show Q0 Z p1 p2 h0 n0 _ T47.heap _
                  rw [e47]
                  exact ⟨(by rw [own_0, if_pos hc1, if_neg hc2, if_pos hc29, if_neg hc30, if_pos hc42, if_neg hc43, if_pos hc46, if_pos hc48]), N47⟩
                · skip
                  refine go1 (fun _ => XS.icmpYes X47.here hx rfl (pc0 := 98) (pc' := 105) rfl (hb hby at_98) rfl (feq hc48).2 (by decide) (by decide)) ?_
                  show Go p.tables e below T47 (mkF m 105 #[.val (.int p1), .val (.int p2), .val (.int ((131 : Int32) + (p1 % (8 : Int32)))), .val (.int (0 : Int32)), .val (.int (131 : Int32))] []) _
                  refine go1 (fun _ => XS.iconst X47.here hx rfl (hb hby at_105)) ?_
                  show Go p.tables e below T47 (mkF m 106 #[.val (.int p1), .val (.int p2), .val (.int ((131 : Int32) + (p1 % (8 : Int32)))), .val (.int (0 : Int32)), .val (.int (131 : Int32))] [(.int (0 : Int32))]) _
                  refine goR X47 (BodyLoose.notSynchronized Bd) (v := (some (.int (0 : Int32)))) (fun h => by rw [Bd.returns] at h; cases h) (Q0 Z p1 p2 h0 n0) (fun fs hr => retN X47 hx (t := .boolean) Bd.returns (by simp) (hb hby at_106) hr) (by decide) (by decide) ?_
                  show Q0 Z p1 p2 h0 n0 _ T47.heap _
                  rw [e47]
                  exact ⟨(by rw [own_0, if_pos hc1, if_neg hc2, if_pos hc29, if_neg hc30, if_pos hc42, if_neg hc43, if_pos hc46, if_neg hc48]), N47⟩
              · skip
                refine go1 (fun _ => XS.icmpNo X0.here hx rfl (hb hby at_77) rfl (flt hc46).1) ?_
                show Go p.tables e below s₁ (mkF m 80 #[.val (.int p1), .val (.int p2), .val (.int ((131 : Int32) + (p1 % (8 : Int32)))), .val (.int (((p2.toUInt32 >>> ((1 : Int32) &&& 31).toUInt32).toInt32) % (3 : Int32))), .val (.int (131 : Int32))] []) _
                refine go1 (fun _ => XS.iloadN X0.here hx rfl (hb hby at_80) rfl) ?_
                show Go p.tables e below s₁ (mkF m 81 #[.val (.int p1), .val (.int p2), .val (.int ((131 : Int32) + (p1 % (8 : Int32)))), .val (.int (((p2.toUInt32 >>> ((1 : Int32) &&& 31).toUInt32).toInt32) % (3 : Int32))), .val (.int (131 : Int32))] [(.int ((131 : Int32) + (p1 % (8 : Int32))))]) _
                refine go1 (fun _ => XS.sipush X0.here hx rfl (hb hby at_81)) ?_
                show Go p.tables e below s₁ (mkF m 84 #[.val (.int p1), .val (.int p2), .val (.int ((131 : Int32) + (p1 % (8 : Int32)))), .val (.int (((p2.toUInt32 >>> ((1 : Int32) &&& 31).toUInt32).toInt32) % (3 : Int32))), .val (.int (131 : Int32))] [(.int (8233 : Int32)), (.int ((131 : Int32) + (p1 % (8 : Int32))))]) _
                by_cases hc49 : (8233 : Int32) < ((131 : Int32) + (p1 % (8 : Int32)))
                · skip
                  refine go1 (fun _ => XS.icmpYes X0.here hx rfl (pc0 := 84) (pc' := 91) rfl (hb hby at_84) rfl (tlt hc49).2.2.1 (by decide) (by decide)) ?_
                  show Go p.tables e below s₁ (mkF m 91 #[.val (.int p1), .val (.int p2), .val (.int ((131 : Int32) + (p1 % (8 : Int32)))), .val (.int (((p2.toUInt32 >>> ((1 : Int32) &&& 31).toUInt32).toInt32) % (3 : Int32))), .val (.int (131 : Int32))] []) _
                  refine go1 (fun _ => XS.iconst X0.here hx rfl (hb hby at_91)) ?_
                  show Go p.tables e below s₁ (mkF m 92 #[.val (.int p1), .val (.int p2), .val (.int ((131 : Int32) + (p1 % (8 : Int32)))), .val (.int (((p2.toUInt32 >>> ((1 : Int32) &&& 31).toUInt32).toInt32) % (3 : Int32))), .val (.int (131 : Int32))] [(.int (0 : Int32))]) _
                  refine go1 (fun _ => XS.istoreN X0.here hx rfl (hb hby at_92) rfl (l' := #[.val (.int p1), .val (.int p2), .val (.int ((131 : Int32) + (p1 % (8 : Int32)))), .val (.int (0 : Int32)), .val (.int (131 : Int32))]) rfl) ?_
                  show Go p.tables e below s₁ (mkF m 93 #[.val (.int p1), .val (.int p2), .val (.int ((131 : Int32) + (p1 % (8 : Int32)))), .val (.int (0 : Int32)), .val (.int (131 : Int32))] []) _
                  refine go1 (fun _ => XS.iloadN X0.here hx rfl (hb hby at_93) rfl) ?_
                  show Go p.tables e below s₁ (mkF m 94 #[.val (.int p1), .val (.int p2), .val (.int ((131 : Int32) + (p1 % (8 : Int32)))), .val (.int (0 : Int32)), .val (.int (131 : Int32))] [(.int ((131 : Int32) + (p1 % (8 : Int32))))]) _
                  obtain ⟨_, _, ⟨T50, L50, k50, n50⟩, -, X50, ⟨Lc50, hQ50, l50, y50, z50⟩, st50⟩ := Jvm.LawKit.callS X0 hx (y := (⟨"com/example/isolatrix/isolatrix/TextCursor", "isLineBreak", "(I)Z"⟩ : MethodName)) hown (mvT hZ (hw _ (List.mem_of_getElem? (i := 0) rfl))) (mvT hZ (hw _ (List.mem_of_getElem? (i := 1) rfl))) (mvT hZ (hw _ (List.mem_of_getElem? (i := 2) rfl))) (mvT hZ (hw _ (List.mem_of_getElem? (i := 3) rfl))) (by decide) (backOf (W := 0) (rm1 l Z a0 hw [] ((131 : Int32) + (p1 % (8 : Int32))) h0 n0 Z0 ) hZ (hw _ (List.mem_of_getElem? (i := 3) rfl)) (hw _ (List.mem_of_getElem? (i := 2) rfl)) (by decide) (by decide)) (g := (mkF m 94 #[.val (.int p1), .val (.int p2), .val (.int ((131 : Int32) + (p1 % (8 : Int32)))), .val (.int (0 : Int32)), .val (.int (131 : Int32))] [(.int ((131 : Int32) + (p1 % (8 : Int32))))])) rfl (by rw [hml]; rfl) (argsL := [(.int ((131 : Int32) + (p1 % (8 : Int32))))]) (rest := []) (lenOf pd0_0 rfl) rfl (by show 2 * 0 + _ ≤ _; exact Nat.le_of_eq rfl) (hb hby at_94) (fun _ _ => ⟨rfl, e0, (by decide : 0 + 0 ≤ _), (by decide : 0 + 0 ≤ _)⟩)
                  dsimp only [Pt.U, Pt.locs, Pt.cells, Pt.slots] at X50 l50 y50 z50 st50 hQ50
                  subst l50 y50 z50
                  obtain ⟨rfl, N50q, e50⟩ := hQ50
                  have N50 := Fr.app N0 N50q
                  refine go1 st50 ?_
                  show Go p.tables e below T50 (mkF m 97 #[.val (.int p1), .val (.int p2), .val (.int ((131 : Int32) + (p1 % (8 : Int32)))), .val (.int (0 : Int32)), .val (.int (131 : Int32))] [(.int (own_1 ((131 : Int32) + (p1 % (8 : Int32)))))]) _
                  refine go1 (fun _ => XS.iloadN X50.here hx rfl (hb hby at_97) rfl) ?_
                  show Go p.tables e below T50 (mkF m 98 #[.val (.int p1), .val (.int p2), .val (.int ((131 : Int32) + (p1 % (8 : Int32)))), .val (.int (0 : Int32)), .val (.int (131 : Int32))] [(.int (0 : Int32)), (.int (own_1 ((131 : Int32) + (p1 % (8 : Int32)))))]) _
                  by_cases hc51 : (own_1 ((131 : Int32) + (p1 % (8 : Int32)))) = (0 : Int32)
                  · skip
                    refine go1 (fun _ => XS.icmpNo X50.here hx rfl (hb hby at_98) rfl (teq hc51).2) ?_
                    show Go p.tables e below T50 (mkF m 101 #[.val (.int p1), .val (.int p2), .val (.int ((131 : Int32) + (p1 % (8 : Int32)))), .val (.int (0 : Int32)), .val (.int (131 : Int32))] []) _
                    refine go1 (fun _ => XS.iconst X50.here hx rfl (hb hby at_101)) ?_
                    show Go p.tables e below T50 (mkF m 102 #[.val (.int p1), .val (.int p2), .val (.int ((131 : Int32) + (p1 % (8 : Int32)))), .val (.int (0 : Int32)), .val (.int (131 : Int32))] [(.int (1 : Int32))]) _
                    refine go1 (fun _ => XS.goto X50.here hx rfl (pc0 := 102) (pc' := 106) rfl (hb hby at_102) (by decide) (by decide)) ?_
                    show Go p.tables e below T50 (mkF m 106 #[.val (.int p1), .val (.int p2), .val (.int ((131 : Int32) + (p1 % (8 : Int32)))), .val (.int (0 : Int32)), .val (.int (131 : Int32))] [(.int (1 : Int32))]) _
                    refine goR X50 (BodyLoose.notSynchronized Bd) (v := (some (.int (1 : Int32)))) (fun h => by rw [Bd.returns] at h; cases h) (Q0 Z p1 p2 h0 n0) (fun fs hr => retN X50 hx (t := .boolean) Bd.returns (by simp) (hb hby at_106) hr) (by decide) (by decide) ?_
                    show Q0 Z p1 p2 h0 n0 _ T50.heap _
                    rw [e50]
                    exact ⟨(by rw [own_0, if_pos hc1, if_neg hc2, if_pos hc29, if_neg hc30, if_pos hc42, if_neg hc43, if_neg hc46, if_pos hc49, if_pos hc51]), N50⟩
                  · skip
                    refine go1 (fun _ => XS.icmpYes X50.here hx rfl (pc0 := 98) (pc' := 105) rfl (hb hby at_98) rfl (feq hc51).2 (by decide) (by decide)) ?_
                    show Go p.tables e below T50 (mkF m 105 #[.val (.int p1), .val (.int p2), .val (.int ((131 : Int32) + (p1 % (8 : Int32)))), .val (.int (0 : Int32)), .val (.int (131 : Int32))] []) _
                    refine go1 (fun _ => XS.iconst X50.here hx rfl (hb hby at_105)) ?_
                    show Go p.tables e below T50 (mkF m 106 #[.val (.int p1), .val (.int p2), .val (.int ((131 : Int32) + (p1 % (8 : Int32)))), .val (.int (0 : Int32)), .val (.int (131 : Int32))] [(.int (0 : Int32))]) _
                    refine goR X50 (BodyLoose.notSynchronized Bd) (v := (some (.int (0 : Int32)))) (fun h => by rw [Bd.returns] at h; cases h) (Q0 Z p1 p2 h0 n0) (fun fs hr => retN X50 hx (t := .boolean) Bd.returns (by simp) (hb hby at_106) hr) (by decide) (by decide) ?_
                    show Q0 Z p1 p2 h0 n0 _ T50.heap _
                    rw [e50]
                    exact ⟨(by rw [own_0, if_pos hc1, if_neg hc2, if_pos hc29, if_neg hc30, if_pos hc42, if_neg hc43, if_neg hc46, if_pos hc49, if_neg hc51]), N50⟩
                · skip
                  refine go1 (fun _ => XS.icmpNo X0.here hx rfl (hb hby at_84) rfl (flt hc49).2.2.1) ?_
                  show Go p.tables e below s₁ (mkF m 87 #[.val (.int p1), .val (.int p2), .val (.int ((131 : Int32) + (p1 % (8 : Int32)))), .val (.int (((p2.toUInt32 >>> ((1 : Int32) &&& 31).toUInt32).toInt32) % (3 : Int32))), .val (.int (131 : Int32))] []) _
                  refine go1 (fun _ => XS.iconst X0.here hx rfl (hb hby at_87)) ?_
                  show Go p.tables e below s₁ (mkF m 88 #[.val (.int p1), .val (.int p2), .val (.int ((131 : Int32) + (p1 % (8 : Int32)))), .val (.int (((p2.toUInt32 >>> ((1 : Int32) &&& 31).toUInt32).toInt32) % (3 : Int32))), .val (.int (131 : Int32))] [(.int (1 : Int32))]) _
                  refine go1 (fun _ => XS.goto X0.here hx rfl (pc0 := 88) (pc' := 92) rfl (hb hby at_88) (by decide) (by decide)) ?_
                  show Go p.tables e below s₁ (mkF m 92 #[.val (.int p1), .val (.int p2), .val (.int ((131 : Int32) + (p1 % (8 : Int32)))), .val (.int (((p2.toUInt32 >>> ((1 : Int32) &&& 31).toUInt32).toInt32) % (3 : Int32))), .val (.int (131 : Int32))] [(.int (1 : Int32))]) _
                  refine go1 (fun _ => XS.istoreN X0.here hx rfl (hb hby at_92) rfl (l' := #[.val (.int p1), .val (.int p2), .val (.int ((131 : Int32) + (p1 % (8 : Int32)))), .val (.int (1 : Int32)), .val (.int (131 : Int32))]) rfl) ?_
                  show Go p.tables e below s₁ (mkF m 93 #[.val (.int p1), .val (.int p2), .val (.int ((131 : Int32) + (p1 % (8 : Int32)))), .val (.int (1 : Int32)), .val (.int (131 : Int32))] []) _
                  refine go1 (fun _ => XS.iloadN X0.here hx rfl (hb hby at_93) rfl) ?_
                  show Go p.tables e below s₁ (mkF m 94 #[.val (.int p1), .val (.int p2), .val (.int ((131 : Int32) + (p1 % (8 : Int32)))), .val (.int (1 : Int32)), .val (.int (131 : Int32))] [(.int ((131 : Int32) + (p1 % (8 : Int32))))]) _
                  obtain ⟨_, _, ⟨T52, L52, k52, n52⟩, -, X52, ⟨Lc52, hQ52, l52, y52, z52⟩, st52⟩ := Jvm.LawKit.callS X0 hx (y := (⟨"com/example/isolatrix/isolatrix/TextCursor", "isLineBreak", "(I)Z"⟩ : MethodName)) hown (mvT hZ (hw _ (List.mem_of_getElem? (i := 0) rfl))) (mvT hZ (hw _ (List.mem_of_getElem? (i := 1) rfl))) (mvT hZ (hw _ (List.mem_of_getElem? (i := 2) rfl))) (mvT hZ (hw _ (List.mem_of_getElem? (i := 3) rfl))) (by decide) (backOf (W := 0) (rm1 l Z a0 hw [] ((131 : Int32) + (p1 % (8 : Int32))) h0 n0 Z0 ) hZ (hw _ (List.mem_of_getElem? (i := 3) rfl)) (hw _ (List.mem_of_getElem? (i := 2) rfl)) (by decide) (by decide)) (g := (mkF m 94 #[.val (.int p1), .val (.int p2), .val (.int ((131 : Int32) + (p1 % (8 : Int32)))), .val (.int (1 : Int32)), .val (.int (131 : Int32))] [(.int ((131 : Int32) + (p1 % (8 : Int32))))])) rfl (by rw [hml]; rfl) (argsL := [(.int ((131 : Int32) + (p1 % (8 : Int32))))]) (rest := []) (lenOf pd0_0 rfl) rfl (by show 2 * 0 + _ ≤ _; exact Nat.le_of_eq rfl) (hb hby at_94) (fun _ _ => ⟨rfl, e0, (by decide : 0 + 0 ≤ _), (by decide : 0 + 0 ≤ _)⟩)
                  dsimp only [Pt.U, Pt.locs, Pt.cells, Pt.slots] at X52 l52 y52 z52 st52 hQ52
                  subst l52 y52 z52
                  obtain ⟨rfl, N52q, e52⟩ := hQ52
                  have N52 := Fr.app N0 N52q
                  refine go1 st52 ?_
                  show Go p.tables e below T52 (mkF m 97 #[.val (.int p1), .val (.int p2), .val (.int ((131 : Int32) + (p1 % (8 : Int32)))), .val (.int (1 : Int32)), .val (.int (131 : Int32))] [(.int (own_1 ((131 : Int32) + (p1 % (8 : Int32)))))]) _
                  refine go1 (fun _ => XS.iloadN X52.here hx rfl (hb hby at_97) rfl) ?_
                  show Go p.tables e below T52 (mkF m 98 #[.val (.int p1), .val (.int p2), .val (.int ((131 : Int32) + (p1 % (8 : Int32)))), .val (.int (1 : Int32)), .val (.int (131 : Int32))] [(.int (1 : Int32)), (.int (own_1 ((131 : Int32) + (p1 % (8 : Int32)))))]) _
                  by_cases hc53 : (own_1 ((131 : Int32) + (p1 % (8 : Int32)))) = (1 : Int32)
                  · skip
                    refine go1 (fun _ => XS.icmpNo X52.here hx rfl (hb hby at_98) rfl (teq hc53).2) ?_
                    show Go p.tables e below T52 (mkF m 101 #[.val (.int p1), .val (.int p2), .val (.int ((131 : Int32) + (p1 % (8 : Int32)))), .val (.int (1 : Int32)), .val (.int (131 : Int32))] []) _
                    refine go1 (fun _ => XS.iconst X52.here hx rfl (hb hby at_101)) ?_
                    show Go p.tables e below T52 (mkF m 102 #[.val (.int p1), .val (.int p2), .val (.int ((131 : Int32) + (p1 % (8 : Int32)))), .val (.int (1 : Int32)), .val (.int (131 : Int32))] [(.int (1 : Int32))]) _
                    refine go1 (fun _ => XS.goto X52.here hx rfl (pc0 := 102) (pc' := 106) rfl (hb hby at_102) (by decide) (by decide)) ?_
                    show Go p.tables e below T52 (mkF m 106 #[.val (.int p1), .val (.int p2), .val (.int ((131 : Int32) + (p1 % (8 : Int32)))), .val (.int (1 : Int32)), .val (.int (131 : Int32))] [(.int (1 : Int32))]) _
                    refine goR X52 (BodyLoose.notSynchronized Bd) (v := (some (.int (1 : Int32)))) (fun h => by rw [Bd.returns] at h; cases h) (Q0 Z p1 p2 h0 n0) (fun fs hr => retN X52 hx (t := .boolean) Bd.returns (by simp) (hb hby at_106) hr) (by decide) (by decide) ?_
                    show Q0 Z p1 p2 h0 n0 _ T52.heap _
                    rw [e52]
                    exact ⟨(by rw [own_0, if_pos hc1, if_neg hc2, if_pos hc29, if_neg hc30, if_pos hc42, if_neg hc43, if_neg hc46, if_neg hc49, if_pos hc53]), N52⟩
                  · skip
                    refine go1 (fun _ => XS.icmpYes X52.here hx rfl (pc0 := 98) (pc' := 105) rfl (hb hby at_98) rfl (feq hc53).2 (by decide) (by decide)) ?_
                    show Go p.tables e below T52 (mkF m 105 #[.val (.int p1), .val (.int p2), .val (.int ((131 : Int32) + (p1 % (8 : Int32)))), .val (.int (1 : Int32)), .val (.int (131 : Int32))] []) _
                    refine go1 (fun _ => XS.iconst X52.here hx rfl (hb hby at_105)) ?_
                    show Go p.tables e below T52 (mkF m 106 #[.val (.int p1), .val (.int p2), .val (.int ((131 : Int32) + (p1 % (8 : Int32)))), .val (.int (1 : Int32)), .val (.int (131 : Int32))] [(.int (0 : Int32))]) _
                    refine goR X52 (BodyLoose.notSynchronized Bd) (v := (some (.int (0 : Int32)))) (fun h => by rw [Bd.returns] at h; cases h) (Q0 Z p1 p2 h0 n0) (fun fs hr => retN X52 hx (t := .boolean) Bd.returns (by simp) (hb hby at_106) hr) (by decide) (by decide) ?_
                    show Q0 Z p1 p2 h0 n0 _ T52.heap _
                    rw [e52]
                    exact ⟨(by rw [own_0, if_pos hc1, if_neg hc2, if_pos hc29, if_neg hc30, if_pos hc42, if_neg hc43, if_neg hc46, if_neg hc49, if_neg hc53]), N52⟩
          · skip
            refine go1 (fun _ => XS.icmpYes X0.here hx rfl (pc0 := 63) (pc' := 87) rfl (hb hby at_63) rfl (flt hc42).2.2.2 (by decide) (by decide)) ?_
            show Go p.tables e below s₁ (mkF m 87 #[.val (.int p1), .val (.int p2), .val (.int ((131 : Int32) + (p1 % (8 : Int32)))), .val (.int (((p2.toUInt32 >>> ((1 : Int32) &&& 31).toUInt32).toInt32) % (3 : Int32))), .val (.int (131 : Int32))] []) _
            refine go1 (fun _ => XS.iconst X0.here hx rfl (hb hby at_87)) ?_
            show Go p.tables e below s₁ (mkF m 88 #[.val (.int p1), .val (.int p2), .val (.int ((131 : Int32) + (p1 % (8 : Int32)))), .val (.int (((p2.toUInt32 >>> ((1 : Int32) &&& 31).toUInt32).toInt32) % (3 : Int32))), .val (.int (131 : Int32))] [(.int (1 : Int32))]) _
            refine go1 (fun _ => XS.goto X0.here hx rfl (pc0 := 88) (pc' := 92) rfl (hb hby at_88) (by decide) (by decide)) ?_
            show Go p.tables e below s₁ (mkF m 92 #[.val (.int p1), .val (.int p2), .val (.int ((131 : Int32) + (p1 % (8 : Int32)))), .val (.int (((p2.toUInt32 >>> ((1 : Int32) &&& 31).toUInt32).toInt32) % (3 : Int32))), .val (.int (131 : Int32))] [(.int (1 : Int32))]) _
            refine go1 (fun _ => XS.istoreN X0.here hx rfl (hb hby at_92) rfl (l' := #[.val (.int p1), .val (.int p2), .val (.int ((131 : Int32) + (p1 % (8 : Int32)))), .val (.int (1 : Int32)), .val (.int (131 : Int32))]) rfl) ?_
            show Go p.tables e below s₁ (mkF m 93 #[.val (.int p1), .val (.int p2), .val (.int ((131 : Int32) + (p1 % (8 : Int32)))), .val (.int (1 : Int32)), .val (.int (131 : Int32))] []) _
            refine go1 (fun _ => XS.iloadN X0.here hx rfl (hb hby at_93) rfl) ?_
            show Go p.tables e below s₁ (mkF m 94 #[.val (.int p1), .val (.int p2), .val (.int ((131 : Int32) + (p1 % (8 : Int32)))), .val (.int (1 : Int32)), .val (.int (131 : Int32))] [(.int ((131 : Int32) + (p1 % (8 : Int32))))]) _
            obtain ⟨_, _, ⟨T54, L54, k54, n54⟩, -, X54, ⟨Lc54, hQ54, l54, y54, z54⟩, st54⟩ := Jvm.LawKit.callS X0 hx (y := (⟨"com/example/isolatrix/isolatrix/TextCursor", "isLineBreak", "(I)Z"⟩ : MethodName)) hown (mvT hZ (hw _ (List.mem_of_getElem? (i := 0) rfl))) (mvT hZ (hw _ (List.mem_of_getElem? (i := 1) rfl))) (mvT hZ (hw _ (List.mem_of_getElem? (i := 2) rfl))) (mvT hZ (hw _ (List.mem_of_getElem? (i := 3) rfl))) (by decide) (backOf (W := 0) (rm1 l Z a0 hw [] ((131 : Int32) + (p1 % (8 : Int32))) h0 n0 Z0 ) hZ (hw _ (List.mem_of_getElem? (i := 3) rfl)) (hw _ (List.mem_of_getElem? (i := 2) rfl)) (by decide) (by decide)) (g := (mkF m 94 #[.val (.int p1), .val (.int p2), .val (.int ((131 : Int32) + (p1 % (8 : Int32)))), .val (.int (1 : Int32)), .val (.int (131 : Int32))] [(.int ((131 : Int32) + (p1 % (8 : Int32))))])) rfl (by rw [hml]; rfl) (argsL := [(.int ((131 : Int32) + (p1 % (8 : Int32))))]) (rest := []) (lenOf pd0_0 rfl) rfl (by show 2 * 0 + _ ≤ _; exact Nat.le_of_eq rfl) (hb hby at_94) (fun _ _ => ⟨rfl, e0, (by decide : 0 + 0 ≤ _), (by decide : 0 + 0 ≤ _)⟩)
            dsimp only [Pt.U, Pt.locs, Pt.cells, Pt.slots] at X54 l54 y54 z54 st54 hQ54
            subst l54 y54 z54
            obtain ⟨rfl, N54q, e54⟩ := hQ54
            have N54 := Fr.app N0 N54q
            refine go1 st54 ?_
            show Go p.tables e below T54 (mkF m 97 #[.val (.int p1), .val (.int p2), .val (.int ((131 : Int32) + (p1 % (8 : Int32)))), .val (.int (1 : Int32)), .val (.int (131 : Int32))] [(.int (own_1 ((131 : Int32) + (p1 % (8 : Int32)))))]) _
            refine go1 (fun _ => XS.iloadN X54.here hx rfl (hb hby at_97) rfl) ?_
            show Go p.tables e below T54 (mkF m 98 #[.val (.int p1), .val (.int p2), .val (.int ((131 : Int32) + (p1 % (8 : Int32)))), .val (.int (1 : Int32)), .val (.int (131 : Int32))] [(.int (1 : Int32)), (.int (own_1 ((131 : Int32) + (p1 % (8 : Int32)))))]) _
            by_cases hc55 : (own_1 ((131 : Int32) + (p1 % (8 : Int32)))) = (1 : Int32)
            · skip
              refine go1 (fun _ => XS.icmpNo X54.here hx rfl (hb hby at_98) rfl (teq hc55).2) ?_
              show Go p.tables e below T54 (mkF m 101 #[.val (.int p1), .val (.int p2), .val (.int ((131 : Int32) + (p1 % (8 : Int32)))), .val (.int (1 : Int32)), .val (.int (131 : Int32))] []) _
              refine go1 (fun _ => XS.iconst X54.here hx rfl (hb hby at_101)) ?_
              show Go p.tables e below T54 (mkF m 102 #[.val (.int p1), .val (.int p2), .val (.int ((131 : Int32) + (p1 % (8 : Int32)))), .val (.int (1 : Int32)), .val (.int (131 : Int32))] [(.int (1 : Int32))]) _
              refine go1 (fun _ => XS.goto X54.here hx rfl (pc0 := 102) (pc' := 106) rfl (hb hby at_102) (by decide) (by decide)) ?_
              show Go p.tables e below T54 (mkF m 106 #[.val (.int p1), .val (.int p2), .val (.int ((131 : Int32) + (p1 % (8 : Int32)))), .val (.int (1 : Int32)), .val (.int (131 : Int32))] [(.int (1 : Int32))]) _
              refine goR X54 (BodyLoose.notSynchronized Bd) (v := (some (.int (1 : Int32)))) (fun h => by rw [Bd.returns] at h; cases h) (Q0 Z p1 p2 h0 n0) (fun fs hr => retN X54 hx (t := .boolean) Bd.returns (by simp) (hb hby at_106) hr) (by decide) (by decide) ?_
              show Q0 Z p1 p2 h0 n0 _ T54.heap _
              rw [e54]
              exact ⟨(by rw [own_0, if_pos hc1, if_neg hc2, if_pos hc29, if_neg hc30, if_neg hc42, if_pos hc55]), N54⟩
            · skip
              refine go1 (fun _ => XS.icmpYes X54.here hx rfl (pc0 := 98) (pc' := 105) rfl (hb hby at_98) rfl (feq hc55).2 (by decide) (by decide)) ?_
              show Go p.tables e below T54 (mkF m 105 #[.val (.int p1), .val (.int p2), .val (.int ((131 : Int32) + (p1 % (8 : Int32)))), .val (.int (1 : Int32)), .val (.int (131 : Int32))] []) _
              refine go1 (fun _ => XS.iconst X54.here hx rfl (hb hby at_105)) ?_
              show Go p.tables e below T54 (mkF m 106 #[.val (.int p1), .val (.int p2), .val (.int ((131 : Int32) + (p1 % (8 : Int32)))), .val (.int (1 : Int32)), .val (.int (131 : Int32))] [(.int (0 : Int32))]) _
              refine goR X54 (BodyLoose.notSynchronized Bd) (v := (some (.int (0 : Int32)))) (fun h => by rw [Bd.returns] at h; cases h) (Q0 Z p1 p2 h0 n0) (fun fs hr => retN X54 hx (t := .boolean) Bd.returns (by simp) (hb hby at_106) hr) (by decide) (by decide) ?_
              show Q0 Z p1 p2 h0 n0 _ T54.heap _
              rw [e54]
              exact ⟨(by rw [own_0, if_pos hc1, if_neg hc2, if_pos hc29, if_neg hc30, if_neg hc42, if_neg hc55]), N54⟩
      · skip
        refine go1 (fun _ => XS.icmpYes X0.here hx rfl (pc0 := 30) (pc' := 41) rfl (hb hby at_30) rfl (feq hc29).2 (by decide) (by decide)) ?_
        show Go p.tables e below s₁ (mkF m 41 #[.val (.int p1), .val (.int p2), .unset, .val (.int (((p2.toUInt32 >>> ((1 : Int32) &&& 31).toUInt32).toInt32) % (3 : Int32))), .unset] []) _
        refine go1 (fun _ => XS.sipush X0.here hx rfl (hb hby at_41)) ?_
        show Go p.tables e below s₁ (mkF m 44 #[.val (.int p1), .val (.int p2), .unset, .val (.int (((p2.toUInt32 >>> ((1 : Int32) &&& 31).toUInt32).toInt32) % (3 : Int32))), .unset] [(.int (8230 : Int32))]) _
        refine go1 (fun _ => XS.istore X0.here hx rfl (hb hby at_44) rfl (l' := #[.val (.int p1), .val (.int p2), .unset, .val (.int (((p2.toUInt32 >>> ((1 : Int32) &&& 31).toUInt32).toInt32) % (3 : Int32))), .val (.int (8230 : Int32))]) rfl) ?_
        show Go p.tables e below s₁ (mkF m 46 #[.val (.int p1), .val (.int p2), .unset, .val (.int (((p2.toUInt32 >>> ((1 : Int32) &&& 31).toUInt32).toInt32) % (3 : Int32))), .val (.int (8230 : Int32))] []) _
        refine go1 (fun _ => XS.iload X0.here hx rfl (hb hby at_46) rfl) ?_
        show Go p.tables e below s₁ (mkF m 48 #[.val (.int p1), .val (.int p2), .unset, .val (.int (((p2.toUInt32 >>> ((1 : Int32) &&& 31).toUInt32).toInt32) % (3 : Int32))), .val (.int (8230 : Int32))] [(.int (8230 : Int32))]) _
        refine go1 (fun _ => XS.iloadN X0.here hx rfl (hb hby at_48) rfl) ?_
        show Go p.tables e below s₁ (mkF m 49 #[.val (.int p1), .val (.int p2), .unset, .val (.int (((p2.toUInt32 >>> ((1 : Int32) &&& 31).toUInt32).toInt32) % (3 : Int32))), .val (.int (8230 : Int32))] [(.int p1), (.int (8230 : Int32))]) _
        refine go1 (fun _ => XS.bipush X0.here hx rfl (hb hby at_49)) ?_
        show Go p.tables e below s₁ (mkF m 51 #[.val (.int p1), .val (.int p2), .unset, .val (.int (((p2.toUInt32 >>> ((1 : Int32) &&& 31).toUInt32).toInt32) % (3 : Int32))), .val (.int (8230 : Int32))] [(.int (8 : Int32)), (.int p1), (.int (8230 : Int32))]) _
        refine go1 (fun _ => XS.irem X0.here hx rfl (hb hby at_51) rfl (by decide)) ?_
        rw [irem_eq_mod p1 (8 : Int32)]
        show Go p.tables e below s₁ (mkF m 52 #[.val (.int p1), .val (.int p2), .unset, .val (.int (((p2.toUInt32 >>> ((1 : Int32) &&& 31).toUInt32).toInt32) % (3 : Int32))), .val (.int (8230 : Int32))] [(.int (p1 % (8 : Int32))), (.int (8230 : Int32))]) _
        refine go1 (fun _ => XS.iadd X0.here hx rfl (hb hby at_52) rfl) ?_
        show Go p.tables e below s₁ (mkF m 53 #[.val (.int p1), .val (.int p2), .unset, .val (.int (((p2.toUInt32 >>> ((1 : Int32) &&& 31).toUInt32).toInt32) % (3 : Int32))), .val (.int (8230 : Int32))] [(.int ((8230 : Int32) + (p1 % (8 : Int32))))]) _
        refine go1 (fun _ => XS.istoreN X0.here hx rfl (hb hby at_53) rfl (l' := #[.val (.int p1), .val (.int p2), .val (.int ((8230 : Int32) + (p1 % (8 : Int32)))), .val (.int (((p2.toUInt32 >>> ((1 : Int32) &&& 31).toUInt32).toInt32) % (3 : Int32))), .val (.int (8230 : Int32))]) rfl) ?_
        show Go p.tables e below s₁ (mkF m 54 #[.val (.int p1), .val (.int p2), .val (.int ((8230 : Int32) + (p1 % (8 : Int32)))), .val (.int (((p2.toUInt32 >>> ((1 : Int32) &&& 31).toUInt32).toInt32) % (3 : Int32))), .val (.int (8230 : Int32))] []) _
        refine go1 (fun _ => XS.iloadN X0.here hx rfl (hb hby at_54) rfl) ?_
        show Go p.tables e below s₁ (mkF m 55 #[.val (.int p1), .val (.int p2), .val (.int ((8230 : Int32) + (p1 % (8 : Int32)))), .val (.int (((p2.toUInt32 >>> ((1 : Int32) &&& 31).toUInt32).toInt32) % (3 : Int32))), .val (.int (8230 : Int32))] [(.int ((8230 : Int32) + (p1 % (8 : Int32))))]) _
        refine go1 (fun _ => XS.bipush X0.here hx rfl (hb hby at_55)) ?_
        show Go p.tables e below s₁ (mkF m 57 #[.val (.int p1), .val (.int p2), .val (.int ((8230 : Int32) + (p1 % (8 : Int32)))), .val (.int (((p2.toUInt32 >>> ((1 : Int32) &&& 31).toUInt32).toInt32) % (3 : Int32))), .val (.int (8230 : Int32))] [(.int (10 : Int32)), (.int ((8230 : Int32) + (p1 % (8 : Int32))))]) _
        by_cases hc56 : ((8230 : Int32) + (p1 % (8 : Int32))) < (10 : Int32)
        · skip
          refine go1 (fun _ => XS.icmpYes X0.here hx rfl (pc0 := 57) (pc' := 66) rfl (hb hby at_57) rfl (tlt hc56).1 (by decide) (by decide)) ?_
          show Go p.tables e below s₁ (mkF m 66 #[.val (.int p1), .val (.int p2), .val (.int ((8230 : Int32) + (p1 % (8 : Int32)))), .val (.int (((p2.toUInt32 >>> ((1 : Int32) &&& 31).toUInt32).toInt32) % (3 : Int32))), .val (.int (8230 : Int32))] []) _
          refine go1 (fun _ => XS.iloadN X0.here hx rfl (hb hby at_66) rfl) ?_
          show Go p.tables e below s₁ (mkF m 67 #[.val (.int p1), .val (.int p2), .val (.int ((8230 : Int32) + (p1 % (8 : Int32)))), .val (.int (((p2.toUInt32 >>> ((1 : Int32) &&& 31).toUInt32).toInt32) % (3 : Int32))), .val (.int (8230 : Int32))] [(.int ((8230 : Int32) + (p1 % (8 : Int32))))]) _
          refine go1 (fun _ => XS.sipush X0.here hx rfl (hb hby at_67)) ?_
          show Go p.tables e below s₁ (mkF m 70 #[.val (.int p1), .val (.int p2), .val (.int ((8230 : Int32) + (p1 % (8 : Int32)))), .val (.int (((p2.toUInt32 >>> ((1 : Int32) &&& 31).toUInt32).toInt32) % (3 : Int32))), .val (.int (8230 : Int32))] [(.int (133 : Int32)), (.int ((8230 : Int32) + (p1 % (8 : Int32))))]) _
          by_cases hc57 : ((8230 : Int32) + (p1 % (8 : Int32))) = (133 : Int32)
          · skip
            refine go1 (fun _ => XS.icmpYes X0.here hx rfl (pc0 := 70) (pc' := 87) rfl (hb hby at_70) rfl (teq hc57).1 (by decide) (by decide)) ?_
            show Go p.tables e below s₁ (mkF m 87 #[.val (.int p1), .val (.int p2), .val (.int ((8230 : Int32) + (p1 % (8 : Int32)))), .val (.int (((p2.toUInt32 >>> ((1 : Int32) &&& 31).toUInt32).toInt32) % (3 : Int32))), .val (.int (8230 : Int32))] []) _
            refine go1 (fun _ => XS.iconst X0.here hx rfl (hb hby at_87)) ?_
            show Go p.tables e below s₁ (mkF m 88 #[.val (.int p1), .val (.int p2), .val (.int ((8230 : Int32) + (p1 % (8 : Int32)))), .val (.int (((p2.toUInt32 >>> ((1 : Int32) &&& 31).toUInt32).toInt32) % (3 : Int32))), .val (.int (8230 : Int32))] [(.int (1 : Int32))]) _
            refine go1 (fun _ => XS.goto X0.here hx rfl (pc0 := 88) (pc' := 92) rfl (hb hby at_88) (by decide) (by decide)) ?_
            show Go p.tables e below s₁ (mkF m 92 #[.val (.int p1), .val (.int p2), .val (.int ((8230 : Int32) + (p1 % (8 : Int32)))), .val (.int (((p2.toUInt32 >>> ((1 : Int32) &&& 31).toUInt32).toInt32) % (3 : Int32))), .val (.int (8230 : Int32))] [(.int (1 : Int32))]) _
            refine go1 (fun _ => XS.istoreN X0.here hx rfl (hb hby at_92) rfl (l' := #[.val (.int p1), .val (.int p2), .val (.int ((8230 : Int32) + (p1 % (8 : Int32)))), .val (.int (1 : Int32)), .val (.int (8230 : Int32))]) rfl) ?_
            show Go p.tables e below s₁ (mkF m 93 #[.val (.int p1), .val (.int p2), .val (.int ((8230 : Int32) + (p1 % (8 : Int32)))), .val (.int (1 : Int32)), .val (.int (8230 : Int32))] []) _
            refine go1 (fun _ => XS.iloadN X0.here hx rfl (hb hby at_93) rfl) ?_
            show Go p.tables e below s₁ (mkF m 94 #[.val (.int p1), .val (.int p2), .val (.int ((8230 : Int32) + (p1 % (8 : Int32)))), .val (.int (1 : Int32)), .val (.int (8230 : Int32))] [(.int ((8230 : Int32) + (p1 % (8 : Int32))))]) _
            obtain ⟨_, _, ⟨T58, L58, k58, n58⟩, -, X58, ⟨Lc58, hQ58, l58, y58, z58⟩, st58⟩ := Jvm.LawKit.callS X0 hx (y := (⟨"com/example/isolatrix/isolatrix/TextCursor", "isLineBreak", "(I)Z"⟩ : MethodName)) hown (mvT hZ (hw _ (List.mem_of_getElem? (i := 0) rfl))) (mvT hZ (hw _ (List.mem_of_getElem? (i := 1) rfl))) (mvT hZ (hw _ (List.mem_of_getElem? (i := 2) rfl))) (mvT hZ (hw _ (List.mem_of_getElem? (i := 3) rfl))) (by decide) (backOf (W := 0) (rm1 l Z a0 hw [] ((8230 : Int32) + (p1 % (8 : Int32))) h0 n0 Z0 ) hZ (hw _ (List.mem_of_getElem? (i := 3) rfl)) (hw _ (List.mem_of_getElem? (i := 2) rfl)) (by decide) (by decide)) (g := (mkF m 94 #[.val (.int p1), .val (.int p2), .val (.int ((8230 : Int32) + (p1 % (8 : Int32)))), .val (.int (1 : Int32)), .val (.int (8230 : Int32))] [(.int ((8230 : Int32) + (p1 % (8 : Int32))))])) rfl (by rw [hml]; rfl) (argsL := [(.int ((8230 : Int32) + (p1 % (8 : Int32))))]) (rest := []) (lenOf pd0_0 rfl) rfl (by show 2 * 0 + _ ≤ _; exact Nat.le_of_eq rfl) (hb hby at_94) (fun _ _ => ⟨rfl, e0, (by decide : 0 + 0 ≤ _), (by decide : 0 + 0 ≤ _)⟩)
            dsimp only [Pt.U, Pt.locs, Pt.cells, Pt.slots] at X58 l58 y58 z58 st58 hQ58
            subst l58 y58 z58
            obtain ⟨rfl, N58q, e58⟩ := hQ58
            have N58 := Fr.app N0 N58q
            refine go1 st58 ?_
            show Go p.tables e below T58 (mkF m 97 #[.val (.int p1), .val (.int p2), .val (.int ((8230 : Int32) + (p1 % (8 : Int32)))), .val (.int (1 : Int32)), .val (.int (8230 : Int32))] [(.int (own_1 ((8230 : Int32) + (p1 % (8 : Int32)))))]) _
            refine go1 (fun _ => XS.iloadN X58.here hx rfl (hb hby at_97) rfl) ?_
            show Go p.tables e below T58 (mkF m 98 #[.val (.int p1), .val (.int p2), .val (.int ((8230 : Int32) + (p1 % (8 : Int32)))), .val (.int (1 : Int32)), .val (.int (8230 : Int32))] [(.int (1 : Int32)), (.int (own_1 ((8230 : Int32) + (p1 % (8 : Int32)))))]) _
            by_cases hc59 : (own_1 ((8230 : Int32) + (p1 % (8 : Int32)))) = (1 : Int32)
            · skip
              refine go1 (fun _ => XS.icmpNo X58.here hx rfl (hb hby at_98) rfl (teq hc59).2) ?_
              show Go p.tables e below T58 (mkF m 101 #[.val (.int p1), .val (.int p2), .val (.int ((8230 : Int32) + (p1 % (8 : Int32)))), .val (.int (1 : Int32)), .val (.int (8230 : Int32))] []) _
              refine go1 (fun _ => XS.iconst X58.here hx rfl (hb hby at_101)) ?_
              show Go p.tables e below T58 (mkF m 102 #[.val (.int p1), .val (.int p2), .val (.int ((8230 : Int32) + (p1 % (8 : Int32)))), .val (.int (1 : Int32)), .val (.int (8230 : Int32))] [(.int (1 : Int32))]) _
              refine go1 (fun _ => XS.goto X58.here hx rfl (pc0 := 102) (pc' := 106) rfl (hb hby at_102) (by decide) (by decide)) ?_
              show Go p.tables e below T58 (mkF m 106 #[.val (.int p1), .val (.int p2), .val (.int ((8230 : Int32) + (p1 % (8 : Int32)))), .val (.int (1 : Int32)), .val (.int (8230 : Int32))] [(.int (1 : Int32))]) _
              refine goR X58 (BodyLoose.notSynchronized Bd) (v := (some (.int (1 : Int32)))) (fun h => by rw [Bd.returns] at h; cases h) (Q0 Z p1 p2 h0 n0) (fun fs hr => retN X58 hx (t := .boolean) Bd.returns (by simp) (hb hby at_106) hr) (by decide) (by decide) ?_
              show Q0 Z p1 p2 h0 n0 _ T58.heap _
              rw [e58]
              exact ⟨(by rw [own_0, if_pos hc1, if_neg hc2, if_neg hc29, if_pos hc56, if_pos hc57, if_pos hc59]), N58⟩
            · skip
              refine go1 (fun _ => XS.icmpYes X58.here hx rfl (pc0 := 98) (pc' := 105) rfl (hb hby at_98) rfl (feq hc59).2 (by decide) (by decide)) ?_
              show Go p.tables e below T58 (mkF m 105 #[.val (.int p1), .val (.int p2), .val (.int ((8230 : Int32) + (p1 % (8 : Int32)))), .val (.int (1 : Int32)), .val (.int (8230 : Int32))] []) _
              refine go1 (fun _ => XS.iconst X58.here hx rfl (hb hby at_105)) ?_
              show Go p.tables e below T58 (mkF m 106 #[.val (.int p1), .val (.int p2), .val (.int ((8230 : Int32) + (p1 % (8 : Int32)))), .val (.int (1 : Int32)), .val (.int (8230 : Int32))] [(.int (0 : Int32))]) _
              refine goR X58 (BodyLoose.notSynchronized Bd) (v := (some (.int (0 : Int32)))) (fun h => by rw [Bd.returns] at h; cases h) (Q0 Z p1 p2 h0 n0) (fun fs hr => retN X58 hx (t := .boolean) Bd.returns (by simp) (hb hby at_106) hr) (by decide) (by decide) ?_
              show Q0 Z p1 p2 h0 n0 _ T58.heap _
              rw [e58]
              exact ⟨(by rw [own_0, if_pos hc1, if_neg hc2, if_neg hc29, if_pos hc56, if_pos hc57, if_neg hc59]), N58⟩
          · skip
            refine go1 (fun _ => XS.icmpNo X0.here hx rfl (hb hby at_70) rfl (feq hc57).1) ?_
            show Go p.tables e below s₁ (mkF m 73 #[.val (.int p1), .val (.int p2), .val (.int ((8230 : Int32) + (p1 % (8 : Int32)))), .val (.int (((p2.toUInt32 >>> ((1 : Int32) &&& 31).toUInt32).toInt32) % (3 : Int32))), .val (.int (8230 : Int32))] []) _
            refine go1 (fun _ => XS.iloadN X0.here hx rfl (hb hby at_73) rfl) ?_
            show Go p.tables e below s₁ (mkF m 74 #[.val (.int p1), .val (.int p2), .val (.int ((8230 : Int32) + (p1 % (8 : Int32)))), .val (.int (((p2.toUInt32 >>> ((1 : Int32) &&& 31).toUInt32).toInt32) % (3 : Int32))), .val (.int (8230 : Int32))] [(.int ((8230 : Int32) + (p1 % (8 : Int32))))]) _
            refine go1 (fun _ => XS.sipush X0.here hx rfl (hb hby at_74)) ?_
            show Go p.tables e below s₁ (mkF m 77 #[.val (.int p1), .val (.int p2), .val (.int ((8230 : Int32) + (p1 % (8 : Int32)))), .val (.int (((p2.toUInt32 >>> ((1 : Int32) &&& 31).toUInt32).toInt32) % (3 : Int32))), .val (.int (8230 : Int32))] [(.int (8232 : Int32)), (.int ((8230 : Int32) + (p1 % (8 : Int32))))]) _
            by_cases hc60 : ((8230 : Int32) + (p1 % (8 : Int32))) < (8232 : Int32)
            · skip
              refine go1 (fun _ => XS.icmpYes X0.here hx rfl (pc0 := 77) (pc' := 91) rfl (hb hby at_77) rfl (tlt hc60).1 (by decide) (by decide)) ?_
              show Go p.tables e below s₁ (mkF m 91 #[.val (.int p1), .val (.int p2), .val (.int ((8230 : Int32) + (p1 % (8 : Int32)))), .val (.int (((p2.toUInt32 >>> ((1 : Int32) &&& 31).toUInt32).toInt32) % (3 : Int32))), .val (.int (8230 : Int32))] []) _
              refine go1 (fun _ => XS.iconst X0.here hx rfl (hb hby at_91)) ?_
              show Go p.tables e below s₁ (mkF m 92 #[.val (.int p1), .val (.int p2), .val (.int ((8230 : Int32) + (p1 % (8 : Int32)))), .val (.int (((p2.toUInt32 >>> ((1 : Int32) &&& 31).toUInt32).toInt32) % (3 : Int32))), .val (.int (8230 : Int32))] [(.int (0 : Int32))]) _
              refine go1 (fun _ => XS.istoreN X0.here hx rfl (hb hby at_92) rfl (l' := #[.val (.int p1), .val (.int p2), .val (.int ((8230 : Int32) + (p1 % (8 : Int32)))), .val (.int (0 : Int32)), .val (.int (8230 : Int32))]) rfl) ?_
              show Go p.tables e below s₁ (mkF m 93 #[.val (.int p1), .val (.int p2), .val (.int ((8230 : Int32) + (p1 % (8 : Int32)))), .val (.int (0 : Int32)), .val (.int (8230 : Int32))] []) _
              refine go1 (fun _ => XS.iloadN X0.here hx rfl (hb hby at_93) rfl) ?_
              show Go p.tables e below s₁ (mkF m 94 #[.val (.int p1), .val (.int p2), .val (.int ((8230 : Int32) + (p1 % (8 : Int32)))), .val (.int (0 : Int32)), .val (.int (8230 : Int32))] [(.int ((8230 : Int32) + (p1 % (8 : Int32))))]) _
              obtain ⟨_, _, ⟨T61, L61, k61, n61⟩, -, X61, ⟨Lc61, hQ61, l61, y61, z61⟩, st61⟩ := Jvm.LawKit.callS X0 hx (y := (⟨"com/example/isolatrix/isolatrix/TextCursor", "isLineBreak", "(I)Z"⟩ : MethodName)) hown (mvT hZ (hw _ (List.mem_of_getElem? (i := 0) rfl))) (mvT hZ (hw _ (List.mem_of_getElem? (i := 1) rfl))) (mvT hZ (hw _ (List.mem_of_getElem? (i := 2) rfl))) (mvT hZ (hw _ (List.mem_of_getElem? (i := 3) rfl))) (by decide) (backOf (W := 0) (rm1 l Z a0 hw [] ((8230 : Int32) + (p1 % (8 : Int32))) h0 n0 Z0 ) hZ (hw _ (List.mem_of_getElem? (i := 3) rfl)) (hw _ (List.mem_of_getElem? (i := 2) rfl)) (by decide) (by decide)) (g := (mkF m 94 #[.val (.int p1), .val (.int p2), .val (.int ((8230 : Int32) + (p1 % (8 : Int32)))), .val (.int (0 : Int32)), .val (.int (8230 : Int32))] [(.int ((8230 : Int32) + (p1 % (8 : Int32))))])) rfl (by rw [hml]; rfl) (argsL := [(.int ((8230 : Int32) + (p1 % (8 : Int32))))]) (rest := []) (lenOf pd0_0 rfl) rfl (by show 2 * 0 + _ ≤ _; exact Nat.le_of_eq rfl) (hb hby at_94) (fun _ _ => ⟨rfl, e0, (by decide : 0 + 0 ≤ _), (by decide : 0 + 0 ≤ _)⟩)
              dsimp only [Pt.U, Pt.locs, Pt.cells, Pt.slots] at X61 l61 y61 z61 st61 hQ61
              subst l61 y61 z61
              obtain ⟨rfl, N61q, e61⟩ := hQ61
              have N61 := Fr.app N0 N61q
              refine go1 st61 ?_
              show Go p.tables e below T61 (mkF m 97 #[.val (.int p1), .val (.int p2), .val (.int ((8230 : Int32) + (p1 % (8 : Int32)))), .val (.int (0 : Int32)), .val (.int (8230 : Int32))] [(.int (own_1 ((8230 : Int32) + (p1 % (8 : Int32)))))]) _
              refine go1 (fun _ => XS.iloadN X61.here hx rfl (hb hby at_97) rfl) ?_
              show Go p.tables e below T61 (mkF m 98 #[.val (.int p1), .val (.int p2), .val (.int ((8230 : Int32) + (p1 % (8 : Int32)))), .val (.int (0 : Int32)), .val (.int (8230 : Int32))] [(.int (0 : Int32)), (.int (own_1 ((8230 : Int32) + (p1 % (8 : Int32)))))]) _
              by_cases hc62 : (own_1 ((8230 : Int32) + (p1 % (8 : Int32)))) = (0 : Int32)
              · skip
                refine go1 (fun _ => XS.icmpNo X61.here hx rfl (hb hby at_98) rfl (teq hc62).2) ?_
                show Go p.tables e below T61 (mkF m 101 #[.val (.int p1), .val (.int p2), .val (.int ((8230 : Int32) + (p1 % (8 : Int32)))), .val (.int (0 : Int32)), .val (.int (8230 : Int32))] []) _
                refine go1 (fun _ => XS.iconst X61.here hx rfl (hb hby at_101)) ?_
                show Go p.tables e below T61 (mkF m 102 #[.val (.int p1), .val (.int p2), .val (.int ((8230 : Int32) + (p1 % (8 : Int32)))), .val (.int (0 : Int32)), .val (.int (8230 : Int32))] [(.int (1 : Int32))]) _
                refine go1 (fun _ => XS.goto X61.here hx rfl (pc0 := 102) (pc' := 106) rfl (hb hby at_102) (by decide) (by decide)) ?_
                show Go p.tables e below T61 (mkF m 106 #[.val (.int p1), .val (.int p2), .val (.int ((8230 : Int32) + (p1 % (8 : Int32)))), .val (.int (0 : Int32)), .val (.int (8230 : Int32))] [(.int (1 : Int32))]) _
                refine goR X61 (BodyLoose.notSynchronized Bd) (v := (some (.int (1 : Int32)))) (fun h => by rw [Bd.returns] at h; cases h) (Q0 Z p1 p2 h0 n0) (fun fs hr => retN X61 hx (t := .boolean) Bd.returns (by simp) (hb hby at_106) hr) (by decide) (by decide) ?_
                show Q0 Z p1 p2 h0 n0 _ T61.heap _
                rw [e61]
                exact ⟨(by rw [own_0, if_pos hc1, if_neg hc2, if_neg hc29, if_pos hc56, if_neg hc57, if_pos hc60, if_pos hc62]), N61⟩
              · skip
                refine go1 (fun _ => XS.icmpYes X61.here hx rfl (pc0 := 98) (pc' := 105) rfl (hb hby at_98) rfl (feq hc62).2 (by decide) (by decide)) ?_
                show Go p.tables e below T61 (mkF m 105 #[.val (.int p1), .val (.int p2), .val (.int ((8230 : Int32) + (p1 % (8 : Int32)))), .val (.int (0 : Int32)), .val (.int (8230 : Int32))] []) _
                refine go1 (fun _ => XS.iconst X61.here hx rfl (hb hby at_105)) ?_
                show Go p.tables e below T61 (mkF m 106 #[.val (.int p1), .val (.int p2), .val (.int ((8230 : Int32) + (p1 % (8 : Int32)))), .val (.int (0 : Int32)), .val (.int (8230 : Int32))] [(.int (0 : Int32))]) _
                refine goR X61 (BodyLoose.notSynchronized Bd) (v := (some (.int (0 : Int32)))) (fun h => by rw [Bd.returns] at h; cases h) (Q0 Z p1 p2 h0 n0) (fun fs hr => retN X61 hx (t := .boolean) Bd.returns (by simp) (hb hby at_106) hr) (by decide) (by decide) ?_
                show Q0 Z p1 p2 h0 n0 _ T61.heap _
                rw [e61]
                exact ⟨(by rw [own_0, if_pos hc1, if_neg hc2, if_neg hc29, if_pos hc56, if_neg hc57, if_pos hc60, if_neg hc62]), N61⟩
            · skip
              refine go1 (fun _ => XS.icmpNo X0.here hx rfl (hb hby at_77) rfl (flt hc60).1) ?_
              show Go p.tables e below s₁ (mkF m 80 #[.val (.int p1), .val (.int p2), .val (.int ((8230 : Int32) + (p1 % (8 : Int32)))), .val (.int (((p2.toUInt32 >>> ((1 : Int32) &&& 31).toUInt32).toInt32) % (3 : Int32))), .val (.int (8230 : Int32))] []) _
              refine go1 (fun _ => XS.iloadN X0.here hx rfl (hb hby at_80) rfl) ?_
              show Go p.tables e below s₁ (mkF m 81 #[.val (.int p1), .val (.int p2), .val (.int ((8230 : Int32) + (p1 % (8 : Int32)))), .val (.int (((p2.toUInt32 >>> ((1 : Int32) &&& 31).toUInt32).toInt32) % (3 : Int32))), .val (.int (8230 : Int32))] [(.int ((8230 : Int32) + (p1 % (8 : Int32))))]) _
              refine go1 (fun _ => XS.sipush X0.here hx rfl (hb hby at_81)) ?_
              show Go p.tables e below s₁ (mkF m 84 #[.val (.int p1), .val (.int p2), .val (.int ((8230 : Int32) + (p1 % (8 : Int32)))), .val (.int (((p2.toUInt32 >>> ((1 : Int32) &&& 31).toUInt32).toInt32) % (3 : Int32))), .val (.int (8230 : Int32))] [(.int (8233 : Int32)), (.int ((8230 : Int32) + (p1 % (8 : Int32))))]) _
              by_cases hc63 : (8233 : Int32) < ((8230 : Int32) + (p1 % (8 : Int32)))
              · skip
                refine go1 (fun _ => XS.icmpYes X0.here hx rfl (pc0 := 84) (pc' := 91) rfl (hb hby at_84) rfl (tlt hc63).2.2.1 (by decide) (by decide)) ?_
                show Go p.tables e below s₁ (mkF m 91 #[.val (.int p1), .val (.int p2), .val (.int ((8230 : Int32) + (p1 % (8 : Int32)))), .val (.int (((p2.toUInt32 >>> ((1 : Int32) &&& 31).toUInt32).toInt32) % (3 : Int32))), .val (.int (8230 : Int32))] []) _
                refine go1 (fun _ => XS.iconst X0.here hx rfl (hb hby at_91)) ?_
                show Go p.tables e below s₁ (mkF m 92 #[.val (.int p1), .val (.int p2), .val (.int ((8230 : Int32) + (p1 % (8 : Int32)))), .val (.int (((p2.toUInt32 >>> ((1 : Int32) &&& 31).toUInt32).toInt32) % (3 : Int32))), .val (.int (8230 : Int32))] [(.int (0 : Int32))]) _
                refine go1 (fun _ => XS.istoreN X0.here hx rfl (hb hby at_92) rfl (l' := #[.val (.int p1), .val (.int p2), .val (.int ((8230 : Int32) + (p1 % (8 : Int32)))), .val (.int (0 : Int32)), .val (.int (8230 : Int32))]) rfl) ?_
                show Go p.tables e below s₁ (mkF m 93 #[.val (.int p1), .val (.int p2), .val (.int ((8230 : Int32) + (p1 % (8 : Int32)))), .val (.int (0 : Int32)), .val (.int (8230 : Int32))] []) _
                refine go1 (fun _ => XS.iloadN X0.here hx rfl (hb hby at_93) rfl) ?_
                show Go p.tables e below s₁ (mkF m 94 #[.val (.int p1), .val (.int p2), .val (.int ((8230 : Int32) + (p1 % (8 : Int32)))), .val (.int (0 : Int32)), .val (.int (8230 : Int32))] [(.int ((8230 : Int32) + (p1 % (8 : Int32))))]) _
                obtain ⟨_, _, ⟨T64, L64, k64, n64⟩, -, X64, ⟨Lc64, hQ64, l64, y64, z64⟩, st64⟩ := Jvm.LawKit.callS X0 hx (y := (⟨"com/example/isolatrix/isolatrix/TextCursor", "isLineBreak", "(I)Z"⟩ : MethodName)) hown (mvT hZ (hw _ (List.mem_of_getElem? (i := 0) rfl))) (mvT hZ (hw _ (List.mem_of_getElem? (i := 1) rfl))) (mvT hZ (hw _ (List.mem_of_getElem? (i := 2) rfl))) (mvT hZ (hw _ (List.mem_of_getElem? (i := 3) rfl))) (by decide) (backOf (W := 0) (rm1 l Z a0 hw [] ((8230 : Int32) + (p1 % (8 : Int32))) h0 n0 Z0 ) hZ (hw _ (List.mem_of_getElem? (i := 3) rfl)) (hw _ (List.mem_of_getElem? (i := 2) rfl)) (by decide) (by decide)) (g := (mkF m 94 #[.val (.int p1), .val (.int p2), .val (.int ((8230 : Int32) + (p1 % (8 : Int32)))), .val (.int (0 : Int32)), .val (.int (8230 : Int32))] [(.int ((8230 : Int32) + (p1 % (8 : Int32))))])) rfl (by rw [hml]; rfl) (argsL := [(.int ((8230 : Int32) + (p1 % (8 : Int32))))]) (rest := []) (lenOf pd0_0 rfl) rfl (by show 2 * 0 + _ ≤ _; exact Nat.le_of_eq rfl) (hb hby at_94) (fun _ _ => ⟨rfl, e0, (by decide : 0 + 0 ≤ _), (by decide : 0 + 0 ≤ _)⟩)
                dsimp only [Pt.U, Pt.locs, Pt.cells, Pt.slots] at X64 l64 y64 z64 st64 hQ64
                subst l64 y64 z64
                obtain ⟨rfl, N64q, e64⟩ := hQ64
                have N64 := Fr.app N0 N64q
                refine go1 st64 ?_
                show Go p.tables e below T64 (mkF m 97 #[.val (.int p1), .val (.int p2), .val (.int ((8230 : Int32) + (p1 % (8 : Int32)))), .val (.int (0 : Int32)), .val (.int (8230 : Int32))] [(.int (own_1 ((8230 : Int32) + (p1 % (8 : Int32)))))]) _
                refine go1 (fun _ => XS.iloadN X64.here hx rfl (hb hby at_97) rfl) ?_
                show Go p.tables e below T64 (mkF m 98 #[.val (.int p1), .val (.int p2), .val (.int ((8230 : Int32) + (p1 % (8 : Int32)))), .val (.int (0 : Int32)), .val (.int (8230 : Int32))] [(.int (0 : Int32)), (.int (own_1 ((8230 : Int32) + (p1 % (8 : Int32)))))]) _
                by_cases hc65 : (own_1 ((8230 : Int32) + (p1 % (8 : Int32)))) = (0 : Int32)
                · skip
                  refine go1 (fun _ => XS.icmpNo X64.here hx rfl (hb hby at_98) rfl (teq hc65).2) ?_
                  show Go p.tables e below T64 (mkF m 101 #[.val (.int p1), .val (.int p2), .val (.int ((8230 : Int32) + (p1 % (8 : Int32)))), .val (.int (0 : Int32)), .val (.int (8230 : Int32))] []) _
                  refine go1 (fun _ => XS.iconst X64.here hx rfl (hb hby at_101)) ?_
                  show Go p.tables e below T64 (mkF m 102 #[.val (.int p1), .val (.int p2), .val (.int ((8230 : Int32) + (p1 % (8 : Int32)))), .val (.int (0 : Int32)), .val (.int (8230 : Int32))] [(.int (1 : Int32))]) _
                  refine go1 (fun _ => XS.goto X64.here hx rfl (pc0 := 102) (pc' := 106) rfl (hb hby at_102) (by decide) (by decide)) ?_
                  show Go p.tables e below T64 (mkF m 106 #[.val (.int p1), .val (.int p2), .val (.int ((8230 : Int32) + (p1 % (8 : Int32)))), .val (.int (0 : Int32)), .val (.int (8230 : Int32))] [(.int (1 : Int32))]) _
                  refine goR X64 (BodyLoose.notSynchronized Bd) (v := (some (.int (1 : Int32)))) (fun h => by rw [Bd.returns] at h; cases h) (Q0 Z p1 p2 h0 n0) (fun fs hr => retN X64 hx (t := .boolean) Bd.returns (by simp) (hb hby at_106) hr) (by decide) (by decide) ?_
                  show Q0 Z p1 p2 h0 n0 _ T64.heap _
                  rw [e64]
                  exact ⟨(by rw [own_0, if_pos hc1, if_neg hc2, if_neg hc29, if_pos hc56, if_neg hc57, if_neg hc60, if_pos hc63, if_pos hc65]), N64⟩
                · skip
                  refine go1 (fun _ => XS.icmpYes X64.here hx rfl (pc0 := 98) (pc' := 105) rfl (hb hby at_98) rfl (feq hc65).2 (by decide) (by decide)) ?_
                  show Go p.tables e below T64 (mkF m 105 #[.val (.int p1), .val (.int p2), .val (.int ((8230 : Int32) + (p1 % (8 : Int32)))), .val (.int (0 : Int32)), .val (.int (8230 : Int32))] []) _
                  refine go1 (fun _ => XS.iconst X64.here hx rfl (hb hby at_105)) ?_
                  show Go p.tables e below T64 (mkF m 106 #[.val (.int p1), .val (.int p2), .val (.int ((8230 : Int32) + (p1 % (8 : Int32)))), .val (.int (0 : Int32)), .val (.int (8230 : Int32))] [(.int (0 : Int32))]) _
                  refine goR X64 (BodyLoose.notSynchronized Bd) (v := (some (.int (0 : Int32)))) (fun h => by rw [Bd.returns] at h; cases h) (Q0 Z p1 p2 h0 n0) (fun fs hr => retN X64 hx (t := .boolean) Bd.returns (by simp) (hb hby at_106) hr) (by decide) (by decide) ?_
                  show Q0 Z p1 p2 h0 n0 _ T64.heap _
                  rw [e64]
                  exact ⟨(by rw [own_0, if_pos hc1, if_neg hc2, if_neg hc29, if_pos hc56, if_neg hc57, if_neg hc60, if_pos hc63, if_neg hc65]), N64⟩
              · skip
                refine go1 (fun _ => XS.icmpNo X0.here hx rfl (hb hby at_84) rfl (flt hc63).2.2.1) ?_
                show Go p.tables e below s₁ (mkF m 87 #[.val (.int p1), .val (.int p2), .val (.int ((8230 : Int32) + (p1 % (8 : Int32)))), .val (.int (((p2.toUInt32 >>> ((1 : Int32) &&& 31).toUInt32).toInt32) % (3 : Int32))), .val (.int (8230 : Int32))] []) _
                refine go1 (fun _ => XS.iconst X0.here hx rfl (hb hby at_87)) ?_
                show Go p.tables e below s₁ (mkF m 88 #[.val (.int p1), .val (.int p2), .val (.int ((8230 : Int32) + (p1 % (8 : Int32)))), .val (.int (((p2.toUInt32 >>> ((1 : Int32) &&& 31).toUInt32).toInt32) % (3 : Int32))), .val (.int (8230 : Int32))] [(.int (1 : Int32))]) _
                refine go1 (fun _ => XS.goto X0.here hx rfl (pc0 := 88) (pc' := 92) rfl (hb hby at_88) (by decide) (by decide)) ?_
                show Go p.tables e below s₁ (mkF m 92 #[.val (.int p1), .val (.int p2), .val (.int ((8230 : Int32) + (p1 % (8 : Int32)))), .val (.int (((p2.toUInt32 >>> ((1 : Int32) &&& 31).toUInt32).toInt32) % (3 : Int32))), .val (.int (8230 : Int32))] [(.int (1 : Int32))]) _
                refine go1 (fun _ => XS.istoreN X0.here hx rfl (hb hby at_92) rfl (l' := #[.val (.int p1), .val (.int p2), .val (.int ((8230 : Int32) + (p1 % (8 : Int32)))), .val (.int (1 : Int32)), .val (.int (8230 : Int32))]) rfl) ?_
                show Go p.tables e below s₁ (mkF m 93 #[.val (.int p1), .val (.int p2), .val (.int ((8230 : Int32) + (p1 % (8 : Int32)))), .val (.int (1 : Int32)), .val (.int (8230 : Int32))] []) _
                refine go1 (fun _ => XS.iloadN X0.here hx rfl (hb hby at_93) rfl) ?_
                show Go p.tables e below s₁ (mkF m 94 #[.val (.int p1), .val (.int p2), .val (.int ((8230 : Int32) + (p1 % (8 : Int32)))), .val (.int (1 : Int32)), .val (.int (8230 : Int32))] [(.int ((8230 : Int32) + (p1 % (8 : Int32))))]) _
                obtain ⟨_, _, ⟨T66, L66, k66, n66⟩, -, X66, ⟨Lc66, hQ66, l66, y66, z66⟩, st66⟩ := Jvm.LawKit.callS X0 hx (y := (⟨"com/example/isolatrix/isolatrix/TextCursor", "isLineBreak", "(I)Z"⟩ : MethodName)) hown (mvT hZ (hw _ (List.mem_of_getElem? (i := 0) rfl))) (mvT hZ (hw _ (List.mem_of_getElem? (i := 1) rfl))) (mvT hZ (hw _ (List.mem_of_getElem? (i := 2) rfl))) (mvT hZ (hw _ (List.mem_of_getElem? (i := 3) rfl))) (by decide) (backOf (W := 0) (rm1 l Z a0 hw [] ((8230 : Int32) + (p1 % (8 : Int32))) h0 n0 Z0 ) hZ (hw _ (List.mem_of_getElem? (i := 3) rfl)) (hw _ (List.mem_of_getElem? (i := 2) rfl)) (by decide) (by decide)) (g := (mkF m 94 #[.val (.int p1), .val (.int p2), .val (.int ((8230 : Int32) + (p1 % (8 : Int32)))), .val (.int (1 : Int32)), .val (.int (8230 : Int32))] [(.int ((8230 : Int32) + (p1 % (8 : Int32))))])) rfl (by rw [hml]; rfl) (argsL := [(.int ((8230 : Int32) + (p1 % (8 : Int32))))]) (rest := []) (lenOf pd0_0 rfl) rfl (by show 2 * 0 + _ ≤ _; exact Nat.le_of_eq rfl) (hb hby at_94) (fun _ _ => ⟨rfl, e0, (by decide : 0 + 0 ≤ _), (by decide : 0 + 0 ≤ _)⟩)
                dsimp only [Pt.U, Pt.locs, Pt.cells, Pt.slots] at X66 l66 y66 z66 st66 hQ66
                subst l66 y66 z66
                obtain ⟨rfl, N66q, e66⟩ := hQ66
                have N66 := Fr.app N0 N66q
                refine go1 st66 ?_
                show Go p.tables e below T66 (mkF m 97 #[.val (.int p1), .val (.int p2), .val (.int ((8230 : Int32) + (p1 % (8 : Int32)))), .val (.int (1 : Int32)), .val (.int (8230 : Int32))] [(.int (own_1 ((8230 : Int32) + (p1 % (8 : Int32)))))]) _
                refine go1 (fun _ => XS.iloadN X66.here hx rfl (hb hby at_97) rfl) ?_
                show Go p.tables e below T66 (mkF m 98 #[.val (.int p1), .val (.int p2), .val (.int ((8230 : Int32) + (p1 % (8 : Int32)))), .val (.int (1 : Int32)), .val (.int (8230 : Int32))] [(.int (1 : Int32)), (.int (own_1 ((8230 : Int32) + (p1 % (8 : Int32)))))]) _
                by_cases hc67 : (own_1 ((8230 : Int32) + (p1 % (8 : Int32)))) = (1 : Int32)
                · skip
                  refine go1 (fun _ => XS.icmpNo X66.here hx rfl (hb hby at_98) rfl (teq hc67).2) ?_
                  show Go p.tables e below T66 (mkF m 101 #[.val (.int p1), .val (.int p2), .val (.int ((8230 : Int32) + (p1 % (8 : Int32)))), .val (.int (1 : Int32)), .val (.int (8230 : Int32))] []) _
                  refine go1 (fun _ => XS.iconst X66.here hx rfl (hb hby at_101)) ?_
                  show Go p.tables e below T66 (mkF m 102 #[.val (.int p1), .val (.int p2), .val (.int ((8230 : Int32) + (p1 % (8 : Int32)))), .val (.int (1 : Int32)), .val (.int (8230 : Int32))] [(.int (1 : Int32))]) _
                  refine go1 (fun _ => XS.goto X66.here hx rfl (pc0 := 102) (pc' := 106) rfl (hb hby at_102) (by decide) (by decide)) ?_
                  show Go p.tables e below T66 (mkF m 106 #[.val (.int p1), .val (.int p2), .val (.int ((8230 : Int32) + (p1 % (8 : Int32)))), .val (.int (1 : Int32)), .val (.int (8230 : Int32))] [(.int (1 : Int32))]) _
                  refine goR X66 (BodyLoose.notSynchronized Bd) (v := (some (.int (1 : Int32)))) (fun h => by rw [Bd.returns] at h; cases h) (Q0 Z p1 p2 h0 n0) (fun fs hr => retN X66 hx (t := .boolean) Bd.returns (by simp) (hb hby at_106) hr) (by decide) (by decide) ?_
                  show Q0 Z p1 p2 h0 n0 _ T66.heap _
                  rw [e66]
                  exact ⟨(by rw [own_0, if_pos hc1, if_neg hc2, if_neg hc29, if_pos hc56, if_neg hc57, if_neg hc60, if_neg hc63, if_pos hc67]), N66⟩
                · skip
                  refine go1 (fun _ => XS.icmpYes X66.here hx rfl (pc0 := 98) (pc' := 105) rfl (hb hby at_98) rfl (feq hc67).2 (by decide) (by decide)) ?_
                  show Go p.tables e below T66 (mkF m 105 #[.val (.int p1), .val (.int p2), .val (.int ((8230 : Int32) + (p1 % (8 : Int32)))), .val (.int (1 : Int32)), .val (.int (8230 : Int32))] []) _
                  refine go1 (fun _ => XS.iconst X66.here hx rfl (hb hby at_105)) ?_
                  show Go p.tables e below T66 (mkF m 106 #[.val (.int p1), .val (.int p2), .val (.int ((8230 : Int32) + (p1 % (8 : Int32)))), .val (.int (1 : Int32)), .val (.int (8230 : Int32))] [(.int (0 : Int32))]) _
                  refine goR X66 (BodyLoose.notSynchronized Bd) (v := (some (.int (0 : Int32)))) (fun h => by rw [Bd.returns] at h; cases h) (Q0 Z p1 p2 h0 n0) (fun fs hr => retN X66 hx (t := .boolean) Bd.returns (by simp) (hb hby at_106) hr) (by decide) (by decide) ?_
                  show Q0 Z p1 p2 h0 n0 _ T66.heap _
                  rw [e66]
                  exact ⟨(by rw [own_0, if_pos hc1, if_neg hc2, if_neg hc29, if_pos hc56, if_neg hc57, if_neg hc60, if_neg hc63, if_neg hc67]), N66⟩
        · skip
          refine go1 (fun _ => XS.icmpNo X0.here hx rfl (hb hby at_57) rfl (flt hc56).1) ?_
          show Go p.tables e below s₁ (mkF m 60 #[.val (.int p1), .val (.int p2), .val (.int ((8230 : Int32) + (p1 % (8 : Int32)))), .val (.int (((p2.toUInt32 >>> ((1 : Int32) &&& 31).toUInt32).toInt32) % (3 : Int32))), .val (.int (8230 : Int32))] []) _
          refine go1 (fun _ => XS.iloadN X0.here hx rfl (hb hby at_60) rfl) ?_
          show Go p.tables e below s₁ (mkF m 61 #[.val (.int p1), .val (.int p2), .val (.int ((8230 : Int32) + (p1 % (8 : Int32)))), .val (.int (((p2.toUInt32 >>> ((1 : Int32) &&& 31).toUInt32).toInt32) % (3 : Int32))), .val (.int (8230 : Int32))] [(.int ((8230 : Int32) + (p1 % (8 : Int32))))]) _
          refine go1 (fun _ => XS.bipush X0.here hx rfl (hb hby at_61)) ?_
          show Go p.tables e below s₁ (mkF m 63 #[.val (.int p1), .val (.int p2), .val (.int ((8230 : Int32) + (p1 % (8 : Int32)))), .val (.int (((p2.toUInt32 >>> ((1 : Int32) &&& 31).toUInt32).toInt32) % (3 : Int32))), .val (.int (8230 : Int32))] [(.int (13 : Int32)), (.int ((8230 : Int32) + (p1 % (8 : Int32))))]) _
          by_cases hc68 : (13 : Int32) < ((8230 : Int32) + (p1 % (8 : Int32)))
          · skip
            refine go1 (fun _ => XS.icmpNo X0.here hx rfl (hb hby at_63) rfl (tlt hc68).2.2.2) ?_
            show Go p.tables e below s₁ (mkF m 66 #[.val (.int p1), .val (.int p2), .val (.int ((8230 : Int32) + (p1 % (8 : Int32)))), .val (.int (((p2.toUInt32 >>> ((1 : Int32) &&& 31).toUInt32).toInt32) % (3 : Int32))), .val (.int (8230 : Int32))] []) _
            refine go1 (fun _ => XS.iloadN X0.here hx rfl (hb hby at_66) rfl) ?_
            show Go p.tables e below s₁ (mkF m 67 #[.val (.int p1), .val (.int p2), .val (.int ((8230 : Int32) + (p1 % (8 : Int32)))), .val (.int (((p2.toUInt32 >>> ((1 : Int32) &&& 31).toUInt32).toInt32) % (3 : Int32))), .val (.int (8230 : Int32))] [(.int ((8230 : Int32) + (p1 % (8 : Int32))))]) _
            refine go1 (fun _ => XS.sipush X0.here hx rfl (hb hby at_67)) ?_
            show Go p.tables e below s₁ (mkF m 70 #[.val (.int p1), .val (.int p2), .val (.int ((8230 : Int32) + (p1 % (8 : Int32)))), .val (.int (((p2.toUInt32 >>> ((1 : Int32) &&& 31).toUInt32).toInt32) % (3 : Int32))), .val (.int (8230 : Int32))] [(.int (133 : Int32)), (.int ((8230 : Int32) + (p1 % (8 : Int32))))]) _
            by_cases hc69 : ((8230 : Int32) + (p1 % (8 : Int32))) = (133 : Int32)
            · skip
              refine go1 (fun _ => XS.icmpYes X0.here hx rfl (pc0 := 70) (pc' := 87) rfl (hb hby at_70) rfl (teq hc69).1 (by decide) (by decide)) ?_
              show Go p.tables e below s₁ (mkF m 87 #[.val (.int p1), .val (.int p2), .val (.int ((8230 : Int32) + (p1 % (8 : Int32)))), .val (.int (((p2.toUInt32 >>> ((1 : Int32) &&& 31).toUInt32).toInt32) % (3 : Int32))), .val (.int (8230 : Int32))] []) _
              refine go1 (fun _ => XS.iconst X0.here hx rfl (hb hby at_87)) ?_
              show Go p.tables e below s₁ (mkF m 88 #[.val (.int p1), .val (.int p2), .val (.int ((8230 : Int32) + (p1 % (8 : Int32)))), .val (.int (((p2.toUInt32 >>> ((1 : Int32) &&& 31).toUInt32).toInt32) % (3 : Int32))), .val (.int (8230 : Int32))] [(.int (1 : Int32))]) _
              refine go1 (fun _ => XS.goto X0.here hx rfl (pc0 := 88) (pc' := 92) rfl (hb hby at_88) (by decide) (by decide)) ?_
              show Go p.tables e below s₁ (mkF m 92 #[.val (.int p1), .val (.int p2), .val (.int ((8230 : Int32) + (p1 % (8 : Int32)))), .val (.int (((p2.toUInt32 >>> ((1 : Int32) &&& 31).toUInt32).toInt32) % (3 : Int32))), .val (.int (8230 : Int32))] [(.int (1 : Int32))]) _
              refine go1 (fun _ => XS.istoreN X0.here hx rfl (hb hby at_92) rfl (l' := #[.val (.int p1), .val (.int p2), .val (.int ((8230 : Int32) + (p1 % (8 : Int32)))), .val (.int (1 : Int32)), .val (.int (8230 : Int32))]) rfl) ?_
              show Go p.tables e below s₁ (mkF m 93 #[.val (.int p1), .val (.int p2), .val (.int ((8230 : Int32) + (p1 % (8 : Int32)))), .val (.int (1 : Int32)), .val (.int (8230 : Int32))] []) _
              refine go1 (fun _ => XS.iloadN X0.here hx rfl (hb hby at_93) rfl) ?_
              show Go p.tables e below s₁ (mkF m 94 #[.val (.int p1), .val (.int p2), .val (.int ((8230 : Int32) + (p1 % (8 : Int32)))), .val (.int (1 : Int32)), .val (.int (8230 : Int32))] [(.int ((8230 : Int32) + (p1 % (8 : Int32))))]) _
              obtain ⟨_, _, ⟨T70, L70, k70, n70⟩, -, X70, ⟨Lc70, hQ70, l70, y70, z70⟩, st70⟩ := Jvm.LawKit.callS X0 hx (y := (⟨"com/example/isolatrix/isolatrix/TextCursor", "isLineBreak", "(I)Z"⟩ : MethodName)) hown (mvT hZ (hw _ (List.mem_of_getElem? (i := 0) rfl))) (mvT hZ (hw _ (List.mem_of_getElem? (i := 1) rfl))) (mvT hZ (hw _ (List.mem_of_getElem? (i := 2) rfl))) (mvT hZ (hw _ (List.mem_of_getElem? (i := 3) rfl))) (by decide) (backOf (W := 0) (rm1 l Z a0 hw [] ((8230 : Int32) + (p1 % (8 : Int32))) h0 n0 Z0 ) hZ (hw _ (List.mem_of_getElem? (i := 3) rfl)) (hw _ (List.mem_of_getElem? (i := 2) rfl)) (by decide) (by decide)) (g := (mkF m 94 #[.val (.int p1), .val (.int p2), .val (.int ((8230 : Int32) + (p1 % (8 : Int32)))), .val (.int (1 : Int32)), .val (.int (8230 : Int32))] [(.int ((8230 : Int32) + (p1 % (8 : Int32))))])) rfl (by rw [hml]; rfl) (argsL := [(.int ((8230 : Int32) + (p1 % (8 : Int32))))]) (rest := []) (lenOf pd0_0 rfl) rfl (by show 2 * 0 + _ ≤ _; exact Nat.le_of_eq rfl) (hb hby at_94) (fun _ _ => ⟨rfl, e0, (by decide : 0 + 0 ≤ _), (by decide : 0 + 0 ≤ _)⟩)
              dsimp only [Pt.U, Pt.locs, Pt.cells, Pt.slots] at X70 l70 y70 z70 st70 hQ70
              subst l70 y70 z70
              obtain ⟨rfl, N70q, e70⟩ := hQ70
              have N70 := Fr.app N0 N70q
              refine go1 st70 ?_
              show Go p.tables e below T70 (mkF m 97 #[.val (.int p1), .val (.int p2), .val (.int ((8230 : Int32) + (p1 % (8 : Int32)))), .val (.int (1 : Int32)), .val (.int (8230 : Int32))] [(.int (own_1 ((8230 : Int32) + (p1 % (8 : Int32)))))]) _
              refine go1 (fun _ => XS.iloadN X70.here hx rfl (hb hby at_97) rfl) ?_
              show Go p.tables e below T70 (mkF m 98 #[.val (.int p1), .val (.int p2), .val (.int ((8230 : Int32) + (p1 % (8 : Int32)))), .val (.int (1 : Int32)), .val (.int (8230 : Int32))] [(.int (1 : Int32)), (.int (own_1 ((8230 : Int32) + (p1 % (8 : Int32)))))]) _
              by_cases hc71 : (own_1 ((8230 : Int32) + (p1 % (8 : Int32)))) = (1 : Int32)
              · skip
                refine go1 (fun _ => XS.icmpNo X70.here hx rfl (hb hby at_98) rfl (teq hc71).2) ?_
                show Go p.tables e below T70 (mkF m 101 #[.val (.int p1), .val (.int p2), .val (.int ((8230 : Int32) + (p1 % (8 : Int32)))), .val (.int (1 : Int32)), .val (.int (8230 : Int32))] []) _
                refine go1 (fun _ => XS.iconst X70.here hx rfl (hb hby at_101)) ?_
                show Go p.tables e below T70 (mkF m 102 #[.val (.int p1), .val (.int p2), .val (.int ((8230 : Int32) + (p1 % (8 : Int32)))), .val (.int (1 : Int32)), .val (.int (8230 : Int32))] [(.int (1 : Int32))]) _
                refine go1 (fun _ => XS.goto X70.here hx rfl (pc0 := 102) (pc' := 106) rfl (hb hby at_102) (by decide) (by decide)) ?_
                show Go p.tables e below T70 (mkF m 106 #[.val (.int p1), .val (.int p2), .val (.int ((8230 : Int32) + (p1 % (8 : Int32)))), .val (.int (1 : Int32)), .val (.int (8230 : Int32))] [(.int (1 : Int32))]) _
                refine goR X70 (BodyLoose.notSynchronized Bd) (v := (some (.int (1 : Int32)))) (fun h => by rw [Bd.returns] at h; cases h) (Q0 Z p1 p2 h0 n0) (fun fs hr => retN X70 hx (t := .boolean) Bd.returns (by simp) (hb hby at_106) hr) (by decide) (by decide) ?_
                show Q0 Z p1 p2 h0 n0 _ T70.heap _
                rw [e70]
                exact ⟨(by rw [own_0, if_pos hc1, if_neg hc2, if_neg hc29, if_neg hc56, if_pos hc68, if_pos hc69, if_pos hc71]), N70⟩
              · skip
                refine go1 (fun _ => XS.icmpYes X70.here hx rfl (pc0 := 98) (pc' := 105) rfl (hb hby at_98) rfl (feq hc71).2 (by decide) (by decide)) ?_
                show Go p.tables e below T70 (mkF m 105 #[.val (.int p1), .val (.int p2), .val (.int ((8230 : Int32) + (p1 % (8 : Int32)))), .val (.int (1 : Int32)), .val (.int (8230 : Int32))] []) _
                refine go1 (fun _ => XS.iconst X70.here hx rfl (hb hby at_105)) ?_
                show Go p.tables e below T70 (mkF m 106 #[.val (.int p1), .val (.int p2), .val (.int ((8230 : Int32) + (p1 % (8 : Int32)))), .val (.int (1 : Int32)), .val (.int (8230 : Int32))] [(.int (0 : Int32))]) _
                refine goR X70 (BodyLoose.notSynchronized Bd) (v := (some (.int (0 : Int32)))) (fun h => by rw [Bd.returns] at h; cases h) (Q0 Z p1 p2 h0 n0) (fun fs hr => retN X70 hx (t := .boolean) Bd.returns (by simp) (hb hby at_106) hr) (by decide) (by decide) ?_
                show Q0 Z p1 p2 h0 n0 _ T70.heap _
                rw [e70]
                exact ⟨(by rw [own_0, if_pos hc1, if_neg hc2, if_neg hc29, if_neg hc56, if_pos hc68, if_pos hc69, if_neg hc71]), N70⟩
            · skip
              refine go1 (fun _ => XS.icmpNo X0.here hx rfl (hb hby at_70) rfl (feq hc69).1) ?_
              show Go p.tables e below s₁ (mkF m 73 #[.val (.int p1), .val (.int p2), .val (.int ((8230 : Int32) + (p1 % (8 : Int32)))), .val (.int (((p2.toUInt32 >>> ((1 : Int32) &&& 31).toUInt32).toInt32) % (3 : Int32))), .val (.int (8230 : Int32))] []) _
              refine go1 (fun _ => XS.iloadN X0.here hx rfl (hb hby at_73) rfl) ?_
              show Go p.tables e below s₁ (mkF m 74 #[.val (.int p1), .val (.int p2), .val (.int ((8230 : Int32) + (p1 % (8 : Int32)))), .val (.int (((p2.toUInt32 >>> ((1 : Int32) &&& 31).toUInt32).toInt32) % (3 : Int32))), .val (.int (8230 : Int32))] [(.int ((8230 : Int32) + (p1 % (8 : Int32))))]) _
              refine go1 (fun _ => XS.sipush X0.here hx rfl (hb hby at_74)) ?_
              show Go p.tables e below s₁ (mkF m 77 #[.val (.int p1), .val (.int p2), .val (.int ((8230 : Int32) + (p1 % (8 : Int32)))), .val (.int (((p2.toUInt32 >>> ((1 : Int32) &&& 31).toUInt32).toInt32) % (3 : Int32))), .val (.int (8230 : Int32))] [(.int (8232 : Int32)), (.int ((8230 : Int32) + (p1 % (8 : Int32))))]) _
              by_cases hc72 : ((8230 : Int32) + (p1 % (8 : Int32))) < (8232 : Int32)
              · skip
                refine go1 (fun _ => XS.icmpYes X0.here hx rfl (pc0 := 77) (pc' := 91) rfl (hb hby at_77) rfl (tlt hc72).1 (by decide) (by decide)) ?_
                show Go p.tables e below s₁ (mkF m 91 #[.val (.int p1), .val (.int p2), .val (.int ((8230 : Int32) + (p1 % (8 : Int32)))), .val (.int (((p2.toUInt32 >>> ((1 : Int32) &&& 31).toUInt32).toInt32) % (3 : Int32))), .val (.int (8230 : Int32))] []) _
                refine go1 (fun _ => XS.iconst X0.here hx rfl (hb hby at_91)) ?_
                show Go p.tables e below s₁ (mkF m 92 #[.val (.int p1), .val (.int p2), .val (.int ((8230 : Int32) + (p1 % (8 : Int32)))), .val (.int (((p2.toUInt32 >>> ((1 : Int32) &&& 31).toUInt32).toInt32) % (3 : Int32))), .val (.int (8230 : Int32))] [(.int (0 : Int32))]) _
                refine go1 (fun _ => XS.istoreN X0.here hx rfl (hb hby at_92) rfl (l' := #[.val (.int p1), .val (.int p2), .val (.int ((8230 : Int32) + (p1 % (8 : Int32)))), .val (.int (0 : Int32)), .val (.int (8230 : Int32))]) rfl) ?_
                show Go p.tables e below s₁ (mkF m 93 #[.val (.int p1), .val (.int p2), .val (.int ((8230 : Int32) + (p1 % (8 : Int32)))), .val (.int (0 : Int32)), .val (.int (8230 : Int32))] []) _
                refine go1 (fun _ => XS.iloadN X0.here hx rfl (hb hby at_93) rfl) ?_
                show Go p.tables e below s₁ (mkF m 94 #[.val (.int p1), .val (.int p2), .val (.int ((8230 : Int32) + (p1 % (8 : Int32)))), .val (.int (0 : Int32)), .val (.int (8230 : Int32))] [(.int ((8230 : Int32) + (p1 % (8 : Int32))))]) _
                obtain ⟨_, _, ⟨T73, L73, k73, n73⟩, -, X73, ⟨Lc73, hQ73, l73, y73, z73⟩, st73⟩ := Jvm.LawKit.callS X0 hx (y := (⟨"com/example/isolatrix/isolatrix/TextCursor", "isLineBreak", "(I)Z"⟩ : MethodName)) hown (mvT hZ (hw _ (List.mem_of_getElem? (i := 0) rfl))) (mvT hZ (hw _ (List.mem_of_getElem? (i := 1) rfl))) (mvT hZ (hw _ (List.mem_of_getElem? (i := 2) rfl))) (mvT hZ (hw _ (List.mem_of_getElem? (i := 3) rfl))) (by decide) (backOf (W := 0) (rm1 l Z a0 hw [] ((8230 : Int32) + (p1 % (8 : Int32))) h0 n0 Z0 ) hZ (hw _ (List.mem_of_getElem? (i := 3) rfl)) (hw _ (List.mem_of_getElem? (i := 2) rfl)) (by decide) (by decide)) (g := (mkF m 94 #[.val (.int p1), .val (.int p2), .val (.int ((8230 : Int32) + (p1 % (8 : Int32)))), .val (.int (0 : Int32)), .val (.int (8230 : Int32))] [(.int ((8230 : Int32) + (p1 % (8 : Int32))))])) rfl (by rw [hml]; rfl) (argsL := [(.int ((8230 : Int32) + (p1 % (8 : Int32))))]) (rest := []) (lenOf pd0_0 rfl) rfl (by show 2 * 0 + _ ≤ _; exact Nat.le_of_eq rfl) (hb hby at_94) (fun _ _ => ⟨rfl, e0, (by decide : 0 + 0 ≤ _), (by decide : 0 + 0 ≤ _)⟩)
                dsimp only [Pt.U, Pt.locs, Pt.cells, Pt.slots] at X73 l73 y73 z73 st73 hQ73
                subst l73 y73 z73
                obtain ⟨rfl, N73q, e73⟩ := hQ73
                have N73 := Fr.app N0 N73q
                refine go1 st73 ?_
                show Go p.tables e below T73 (mkF m 97 #[.val (.int p1), .val (.int p2), .val (.int ((8230 : Int32) + (p1 % (8 : Int32)))), .val (.int (0 : Int32)), .val (.int (8230 : Int32))] [(.int (own_1 ((8230 : Int32) + (p1 % (8 : Int32)))))]) _
                refine go1 (fun _ => XS.iloadN X73.here hx rfl (hb hby at_97) rfl) ?_
                show Go p.tables e below T73 (mkF m 98 #[.val (.int p1), .val (.int p2), .val (.int ((8230 : Int32) + (p1 % (8 : Int32)))), .val (.int (0 : Int32)), .val (.int (8230 : Int32))] [(.int (0 : Int32)), (.int (own_1 ((8230 : Int32) + (p1 % (8 : Int32)))))]) _
                by_cases hc74 : (own_1 ((8230 : Int32) + (p1 % (8 : Int32)))) = (0 : Int32)
                · skip
                  refine go1 (fun _ => XS.icmpNo X73.here hx rfl (hb hby at_98) rfl (teq hc74).2) ?_
                  show Go p.tables e below T73 (mkF m 101 #[.val (.int p1), .val (.int p2), .val (.int ((8230 : Int32) + (p1 % (8 : Int32)))), .val (.int (0 : Int32)), .val (.int (8230 : Int32))] []) _
                  refine go1 (fun _ => XS.iconst X73.here hx rfl (hb hby at_101)) ?_
                  show Go p.tables e below T73 (mkF m 102 #[.val (.int p1), .val (.int p2), .val (.int ((8230 : Int32) + (p1 % (8 : Int32)))), .val (.int (0 : Int32)), .val (.int (8230 : Int32))] [(.int (1 : Int32))]) _
                  refine go1 (fun _ => XS.goto X73.here hx rfl (pc0 := 102) (pc' := 106) rfl (hb hby at_102) (by decide) (by decide)) ?_
                  show Go p.tables e below T73 (mkF m 106 #[.val (.int p1), .val (.int p2), .val (.int ((8230 : Int32) + (p1 % (8 : Int32)))), .val (.int (0 : Int32)), .val (.int (8230 : Int32))] [(.int (1 : Int32))]) _
                  refine goR X73 (BodyLoose.notSynchronized Bd) (v := (some (.int (1 : Int32)))) (fun h => by rw [Bd.returns] at h; cases h) (Q0 Z p1 p2 h0 n0) (fun fs hr => retN X73 hx (t := .boolean) Bd.returns (by simp) (hb hby at_106) hr) (by decide) (by decide) ?_
                  show Q0 Z p1 p2 h0 n0 _ T73.heap _
                  rw [e73]
                  exact ⟨(by rw [own_0, if_pos hc1, if_neg hc2, if_neg hc29, if_neg hc56, if_pos hc68, if_neg hc69, if_pos hc72, if_pos hc74]), N73⟩
                · skip
                  refine go1 (fun _ => XS.icmpYes X73.here hx rfl (pc0 := 98) (pc' := 105) rfl (hb hby at_98) rfl (feq hc74).2 (by decide) (by decide)) ?_
                  show Go p.tables e below T73 (mkF m 105 #[.val (.int p1), .val (.int p2), .val (.int ((8230 : Int32) + (p1 % (8 : Int32)))), .val (.int (0 : Int32)), .val (.int (8230 : Int32))] []) _
                  refine go1 (fun _ => XS.iconst X73.here hx rfl (hb hby at_105)) ?_
                  show Go p.tables e below T73 (mkF m 106 #[.val (.int p1), .val (.int p2), .val (.int ((8230 : Int32) + (p1 % (8 : Int32)))), .val (.int (0 : Int32)), .val (.int (8230 : Int32))] [(.int (0 : Int32))]) _
                  refine goR X73 (BodyLoose.notSynchronized Bd) (v := (some (.int (0 : Int32)))) (fun h => by rw [Bd.returns] at h; cases h) (Q0 Z p1 p2 h0 n0) (fun fs hr => retN X73 hx (t := .boolean) Bd.returns (by simp) (hb hby at_106) hr) (by decide) (by decide) ?_
                  show Q0 Z p1 p2 h0 n0 _ T73.heap _
                  rw [e73]
                  exact ⟨(by rw [own_0, if_pos hc1, if_neg hc2, if_neg hc29, if_neg hc56, if_pos hc68, if_neg hc69, if_pos hc72, if_neg hc74]), N73⟩
              · skip
                refine go1 (fun _ => XS.icmpNo X0.here hx rfl (hb hby at_77) rfl (flt hc72).1) ?_
                show Go p.tables e below s₁ (mkF m 80 #[.val (.int p1), .val (.int p2), .val (.int ((8230 : Int32) + (p1 % (8 : Int32)))), .val (.int (((p2.toUInt32 >>> ((1 : Int32) &&& 31).toUInt32).toInt32) % (3 : Int32))), .val (.int (8230 : Int32))] []) _
                refine go1 (fun _ => XS.iloadN X0.here hx rfl (hb hby at_80) rfl) ?_
                show Go p.tables e below s₁ (mkF m 81 #[.val (.int p1), .val (.int p2), .val (.int ((8230 : Int32) + (p1 % (8 : Int32)))), .val (.int (((p2.toUInt32 >>> ((1 : Int32) &&& 31).toUInt32).toInt32) % (3 : Int32))), .val (.int (8230 : Int32))] [(.int ((8230 : Int32) + (p1 % (8 : Int32))))]) _
                refine go1 (fun _ => XS.sipush X0.here hx rfl (hb hby at_81)) ?_
                show Go p.tables e below s₁ (mkF m 84 #[.val (.int p1), .val (.int p2), .val (.int ((8230 : Int32) + (p1 % (8 : Int32)))), .val (.int (((p2.toUInt32 >>> ((1 : Int32) &&& 31).toUInt32).toInt32) % (3 : Int32))), .val (.int (8230 : Int32))] [(.int (8233 : Int32)), (.int ((8230 : Int32) + (p1 % (8 : Int32))))]) _
                by_cases hc75 : (8233 : Int32) < ((8230 : Int32) + (p1 % (8 : Int32)))
                · skip
                  refine go1 (fun _ => XS.icmpYes X0.here hx rfl (pc0 := 84) (pc' := 91) rfl (hb hby at_84) rfl (tlt hc75).2.2.1 (by decide) (by decide)) ?_
                  show Go p.tables e below s₁ (mkF m 91 #[.val (.int p1), .val (.int p2), .val (.int ((8230 : Int32) + (p1 % (8 : Int32)))), .val (.int (((p2.toUInt32 >>> ((1 : Int32) &&& 31).toUInt32).toInt32) % (3 : Int32))), .val (.int (8230 : Int32))] []) _
                  refine go1 (fun _ => XS.iconst X0.here hx rfl (hb hby at_91)) ?_
                  show Go p.tables e below s₁ (mkF m 92 #[.val (.int p1), .val (.int p2), .val (.int ((8230 : Int32) + (p1 % (8 : Int32)))), .val (.int (((p2.toUInt32 >>> ((1 : Int32) &&& 31).toUInt32).toInt32) % (3 : Int32))), .val (.int (8230 : Int32))] [(.int (0 : Int32))]) _
                  refine go1 (fun _ => XS.istoreN X0.here hx rfl (hb hby at_92) rfl (l' := #[.val (.int p1), .val (.int p2), .val (.int ((8230 : Int32) + (p1 % (8 : Int32)))), .val (.int (0 : Int32)), .val (.int (8230 : Int32))]) rfl) ?_
                  show Go p.tables e below s₁ (mkF m 93 #[.val (.int p1), .val (.int p2), .val (.int ((8230 : Int32) + (p1 % (8 : Int32)))), .val (.int (0 : Int32)), .val (.int (8230 : Int32))] []) _
                  refine go1 (fun _ => XS.iloadN X0.here hx rfl (hb hby at_93) rfl) ?_
                  show Go p.tables e below s₁ (mkF m 94 #[.val (.int p1), .val (.int p2), .val (.int ((8230 : Int32) + (p1 % (8 : Int32)))), .val (.int (0 : Int32)), .val (.int (8230 : Int32))] [(.int ((8230 : Int32) + (p1 % (8 : Int32))))]) _
                  obtain ⟨_, _, ⟨T76, L76, k76, n76⟩, -, X76, ⟨Lc76, hQ76, l76, y76, z76⟩, st76⟩ := Jvm.LawKit.callS X0 hx (y := (⟨"com/example/isolatrix/isolatrix/TextCursor", "isLineBreak", "(I)Z"⟩ : MethodName)) hown (mvT hZ (hw _ (List.mem_of_getElem? (i := 0) rfl))) (mvT hZ (hw _ (List.mem_of_getElem? (i := 1) rfl))) (mvT hZ (hw _ (List.mem_of_getElem? (i := 2) rfl))) (mvT hZ (hw _ (List.mem_of_getElem? (i := 3) rfl))) (by decide) (backOf (W := 0) (rm1 l Z a0 hw [] ((8230 : Int32) + (p1 % (8 : Int32))) h0 n0 Z0 ) hZ (hw _ (List.mem_of_getElem? (i := 3) rfl)) (hw _ (List.mem_of_getElem? (i := 2) rfl)) (by decide) (by decide)) (g := (mkF m 94 #[.val (.int p1), .val (.int p2), .val (.int ((8230 : Int32) + (p1 % (8 : Int32)))), .val (.int (0 : Int32)), .val (.int (8230 : Int32))] [(.int ((8230 : Int32) + (p1 % (8 : Int32))))])) rfl (by rw [hml]; rfl) (argsL := [(.int ((8230 : Int32) + (p1 % (8 : Int32))))]) (rest := []) (lenOf pd0_0 rfl) rfl (by show 2 * 0 + _ ≤ _; exact Nat.le_of_eq rfl) (hb hby at_94) (fun _ _ => ⟨rfl, e0, (by decide : 0 + 0 ≤ _), (by decide : 0 + 0 ≤ _)⟩)
                  dsimp only [Pt.U, Pt.locs, Pt.cells, Pt.slots] at X76 l76 y76 z76 st76 hQ76
                  subst l76 y76 z76
                  obtain ⟨rfl, N76q, e76⟩ := hQ76
                  have N76 := Fr.app N0 N76q
                  refine go1 st76 ?_
                  show Go p.tables e below T76 (mkF m 97 #[.val (.int p1), .val (.int p2), .val (.int ((8230 : Int32) + (p1 % (8 : Int32)))), .val (.int (0 : Int32)), .val (.int (8230 : Int32))] [(.int (own_1 ((8230 : Int32) + (p1 % (8 : Int32)))))]) _
                  refine go1 (fun _ => XS.iloadN X76.here hx rfl (hb hby at_97) rfl) ?_
                  show Go p.tables e below T76 (mkF m 98 #[.val (.int p1), .val (.int p2), .val (.int ((8230 : Int32) + (p1 % (8 : Int32)))), .val (.int (0 : Int32)), .val (.int (8230 : Int32))] [(.int (0 : Int32)), (.int (own_1 ((8230 : Int32) + (p1 % (8 : Int32)))))]) _
                  by_cases hc77 : (own_1 ((8230 : Int32) + (p1 % (8 : Int32)))) = (0 : Int32)
                  · skip
                    refine go1 (fun _ => XS.icmpNo X76.here hx rfl (hb hby at_98) rfl (teq hc77).2) ?_
                    show Go p.tables e below T76 (mkF m 101 #[.val (.int p1), .val (.int p2), .val (.int ((8230 : Int32) + (p1 % (8 : Int32)))), .val (.int (0 : Int32)), .val (.int (8230 : Int32))] []) _
                    refine go1 (fun _ => XS.iconst X76.here hx rfl (hb hby at_101)) ?_
                    show Go p.tables e below T76 (mkF m 102 #[.val (.int p1), .val (.int p2), .val (.int ((8230 : Int32) + (p1 % (8 : Int32)))), .val (.int (0 : Int32)), .val (.int (8230 : Int32))] [(.int (1 : Int32))]) _
                    refine go1 (fun _ => XS.goto X76.here hx rfl (pc0 := 102) (pc' := 106) rfl (hb hby at_102) (by decide) (by decide)) ?_
                    show Go p.tables e below T76 (mkF m 106 #[.val (.int p1), .val (.int p2), .val (.int ((8230 : Int32) + (p1 % (8 : Int32)))), .val (.int (0 : Int32)), .val (.int (8230 : Int32))] [(.int (1 : Int32))]) _
                    refine goR X76 (BodyLoose.notSynchronized Bd) (v := (some (.int (1 : Int32)))) (fun h => by rw [Bd.returns] at h; cases h) (Q0 Z p1 p2 h0 n0) (fun fs hr => retN X76 hx (t := .boolean) Bd.returns (by simp) (hb hby at_106) hr) (by decide) (by decide) ?_
                    show Q0 Z p1 p2 h0 n0 _ T76.heap _
                    rw [e76]
                    exact ⟨(by rw [own_0, if_pos hc1, if_neg hc2, if_neg hc29, if_neg hc56, if_pos hc68, if_neg hc69, if_neg hc72, if_pos hc75, if_pos hc77]), N76⟩
                  · skip
                    refine go1 (fun _ => XS.icmpYes X76.here hx rfl (pc0 := 98) (pc' := 105) rfl (hb hby at_98) rfl (feq hc77).2 (by decide) (by decide)) ?_
                    show Go p.tables e below T76 (mkF m 105 #[.val (.int p1), .val (.int p2), .val (.int ((8230 : Int32) + (p1 % (8 : Int32)))), .val (.int (0 : Int32)), .val (.int (8230 : Int32))] []) _
                    refine go1 (fun _ => XS.iconst X76.here hx rfl (hb hby at_105)) ?_
                    show Go p.tables e below T76 (mkF m 106 #[.val (.int p1), .val (.int p2), .val (.int ((8230 : Int32) + (p1 % (8 : Int32)))), .val (.int (0 : Int32)), .val (.int (8230 : Int32))] [(.int (0 : Int32))]) _
                    refine goR X76 (BodyLoose.notSynchronized Bd) (v := (some (.int (0 : Int32)))) (fun h => by rw [Bd.returns] at h; cases h) (Q0 Z p1 p2 h0 n0) (fun fs hr => retN X76 hx (t := .boolean) Bd.returns (by simp) (hb hby at_106) hr) (by decide) (by decide) ?_
                    show Q0 Z p1 p2 h0 n0 _ T76.heap _
                    rw [e76]
                    exact ⟨(by rw [own_0, if_pos hc1, if_neg hc2, if_neg hc29, if_neg hc56, if_pos hc68, if_neg hc69, if_neg hc72, if_pos hc75, if_neg hc77]), N76⟩
                · skip
                  refine go1 (fun _ => XS.icmpNo X0.here hx rfl (hb hby at_84) rfl (flt hc75).2.2.1) ?_
                  show Go p.tables e below s₁ (mkF m 87 #[.val (.int p1), .val (.int p2), .val (.int ((8230 : Int32) + (p1 % (8 : Int32)))), .val (.int (((p2.toUInt32 >>> ((1 : Int32) &&& 31).toUInt32).toInt32) % (3 : Int32))), .val (.int (8230 : Int32))] []) _
                  refine go1 (fun _ => XS.iconst X0.here hx rfl (hb hby at_87)) ?_
                  show Go p.tables e below s₁ (mkF m 88 #[.val (.int p1), .val (.int p2), .val (.int ((8230 : Int32) + (p1 % (8 : Int32)))), .val (.int (((p2.toUInt32 >>> ((1 : Int32) &&& 31).toUInt32).toInt32) % (3 : Int32))), .val (.int (8230 : Int32))] [(.int (1 : Int32))]) _
                  refine go1 (fun _ => XS.goto X0.here hx rfl (pc0 := 88) (pc' := 92) rfl (hb hby at_88) (by decide) (by decide)) ?_
                  show Go p.tables e below s₁ (mkF m 92 #[.val (.int p1), .val (.int p2), .val (.int ((8230 : Int32) + (p1 % (8 : Int32)))), .val (.int (((p2.toUInt32 >>> ((1 : Int32) &&& 31).toUInt32).toInt32) % (3 : Int32))), .val (.int (8230 : Int32))] [(.int (1 : Int32))]) _
                  refine go1 (fun _ => XS.istoreN X0.here hx rfl (hb hby at_92) rfl (l' := #[.val (.int p1), .val (.int p2), .val (.int ((8230 : Int32) + (p1 % (8 : Int32)))), .val (.int (1 : Int32)), .val (.int (8230 : Int32))]) rfl) ?_
                  show Go p.tables e below s₁ (mkF m 93 #[.val (.int p1), .val (.int p2), .val (.int ((8230 : Int32) + (p1 % (8 : Int32)))), .val (.int (1 : Int32)), .val (.int (8230 : Int32))] []) _
                  refine go1 (fun _ => XS.iloadN X0.here hx rfl (hb hby at_93) rfl) ?_
                  show Go p.tables e below s₁ (mkF m 94 #[.val (.int p1), .val (.int p2), .val (.int ((8230 : Int32) + (p1 % (8 : Int32)))), .val (.int (1 : Int32)), .val (.int (8230 : Int32))] [(.int ((8230 : Int32) + (p1 % (8 : Int32))))]) _
                  obtain ⟨_, _, ⟨T78, L78, k78, n78⟩, -, X78, ⟨Lc78, hQ78, l78, y78, z78⟩, st78⟩ := Jvm.LawKit.callS X0 hx (y := (⟨"com/example/isolatrix/isolatrix/TextCursor", "isLineBreak", "(I)Z"⟩ : MethodName)) hown (mvT hZ (hw _ (List.mem_of_getElem? (i := 0) rfl))) (mvT hZ (hw _ (List.mem_of_getElem? (i := 1) rfl))) (mvT hZ (hw _ (List.mem_of_getElem? (i := 2) rfl))) (mvT hZ (hw _ (List.mem_of_getElem? (i := 3) rfl))) (by decide) (backOf (W := 0) (rm1 l Z a0 hw [] ((8230 : Int32) + (p1 % (8 : Int32))) h0 n0 Z0 ) hZ (hw _ (List.mem_of_getElem? (i := 3) rfl)) (hw _ (List.mem_of_getElem? (i := 2) rfl)) (by decide) (by decide)) (g := (mkF m 94 #[.val (.int p1), .val (.int p2), .val (.int ((8230 : Int32) + (p1 % (8 : Int32)))), .val (.int (1 : Int32)), .val (.int (8230 : Int32))] [(.int ((8230 : Int32) + (p1 % (8 : Int32))))])) rfl (by rw [hml]; rfl) (argsL := [(.int ((8230 : Int32) + (p1 % (8 : Int32))))]) (rest := []) (lenOf pd0_0 rfl) rfl (by show 2 * 0 + _ ≤ _; exact Nat.le_of_eq rfl) (hb hby at_94) (fun _ _ => ⟨rfl, e0, (by decide : 0 + 0 ≤ _), (by decide : 0 + 0 ≤ _)⟩)
                  dsimp only [Pt.U, Pt.locs, Pt.cells, Pt.slots] at X78 l78 y78 z78 st78 hQ78
                  subst l78 y78 z78
                  obtain ⟨rfl, N78q, e78⟩ := hQ78
                  have N78 := Fr.app N0 N78q
                  refine go1 st78 ?_
                  show Go p.tables e below T78 (mkF m 97 #[.val (.int p1), .val (.int p2), .val (.int ((8230 : Int32) + (p1 % (8 : Int32)))), .val (.int (1 : Int32)), .val (.int (8230 : Int32))] [(.int (own_1 ((8230 : Int32) + (p1 % (8 : Int32)))))]) _
                  refine go1 (fun _ => XS.iloadN X78.here hx rfl (hb hby at_97) rfl) ?_
                  show Go p.tables e below T78 (mkF m 98 #[.val (.int p1), .val (.int p2), .val (.int ((8230 : Int32) + (p1 % (8 : Int32)))), .val (.int (1 : Int32)), .val (.int (8230 : Int32))] [(.int (1 : Int32)), (.int (own_1 ((8230 : Int32) + (p1 % (8 : Int32)))))]) _
                  by_cases hc79 : (own_1 ((8230 : Int32) + (p1 % (8 : Int32)))) = (1 : Int32)
                  · skip
                    refine go1 (fun _ => XS.icmpNo X78.here hx rfl (hb hby at_98) rfl (teq hc79).2) ?_
                    show Go p.tables e below T78 (mkF m 101 #[.val (.int p1), .val (.int p2), .val (.int ((8230 : Int32) + (p1 % (8 : Int32)))), .val (.int (1 : Int32)), .val (.int (8230 : Int32))] []) _
                    refine go1 (fun _ => XS.iconst X78.here hx rfl (hb hby at_101)) ?_
                    show Go p.tables e below T78 (mkF m 102 #[.val (.int p1), .val (.int p2), .val (.int ((8230 : Int32) + (p1 % (8 : Int32)))), .val (.int (1 : Int32)), .val (.int (8230 : Int32))] [(.int (1 : Int32))]) _
                    refine go1 (fun _ => XS.goto X78.here hx rfl (pc0 := 102) (pc' := 106) rfl (hb hby at_102) (by decide) (by decide)) ?_
                    show Go p.tables e below T78 (mkF m 106 #[.val (.int p1), .val (.int p2), .val (.int ((8230 : Int32) + (p1 % (8 : Int32)))), .val (.int (1 : Int32)), .val (.int (8230 : Int32))] [(.int (1 : Int32))]) _
                    refine goR X78 (BodyLoose.notSynchronized Bd) (v := (some (.int (1 : Int32)))) (fun h => by rw [Bd.returns] at h; cases h) (Q0 Z p1 p2 h0 n0) (fun fs hr => retN X78 hx (t := .boolean) Bd.returns (by simp) (hb hby at_106) hr) (by decide) (by decide) ?_
                    show Q0 Z p1 p2 h0 n0 _ T78.heap _
                    rw [e78]
                    exact ⟨(by rw [own_0, if_pos hc1, if_neg hc2, if_neg hc29, if_neg hc56, if_pos hc68, if_neg hc69, if_neg hc72, if_neg hc75, if_pos hc79]), N78⟩
                  · skip
                    refine go1 (fun _ => XS.icmpYes X78.here hx rfl (pc0 := 98) (pc' := 105) rfl (hb hby at_98) rfl (feq hc79).2 (by decide) (by decide)) ?_
                    show Go p.tables e below T78 (mkF m 105 #[.val (.int p1), .val (.int p2), .val (.int ((8230 : Int32) + (p1 % (8 : Int32)))), .val (.int (1 : Int32)), .val (.int (8230 : Int32))] []) _
                    refine go1 (fun _ => XS.iconst X78.here hx rfl (hb hby at_105)) ?_
                    show Go p.tables e below T78 (mkF m 106 #[.val (.int p1), .val (.int p2), .val (.int ((8230 : Int32) + (p1 % (8 : Int32)))), .val (.int (1 : Int32)), .val (.int (8230 : Int32))] [(.int (0 : Int32))]) _
                    refine goR X78 (BodyLoose.notSynchronized Bd) (v := (some (.int (0 : Int32)))) (fun h => by rw [Bd.returns] at h; cases h) (Q0 Z p1 p2 h0 n0) (fun fs hr => retN X78 hx (t := .boolean) Bd.returns (by simp) (hb hby at_106) hr) (by decide) (by decide) ?_
                    show Q0 Z p1 p2 h0 n0 _ T78.heap _
                    rw [e78]
                    exact ⟨(by rw [own_0, if_pos hc1, if_neg hc2, if_neg hc29, if_neg hc56, if_pos hc68, if_neg hc69, if_neg hc72, if_neg hc75, if_neg hc79]), N78⟩
          · skip
            refine go1 (fun _ => XS.icmpYes X0.here hx rfl (pc0 := 63) (pc' := 87) rfl (hb hby at_63) rfl (flt hc68).2.2.2 (by decide) (by decide)) ?_
            show Go p.tables e below s₁ (mkF m 87 #[.val (.int p1), .val (.int p2), .val (.int ((8230 : Int32) + (p1 % (8 : Int32)))), .val (.int (((p2.toUInt32 >>> ((1 : Int32) &&& 31).toUInt32).toInt32) % (3 : Int32))), .val (.int (8230 : Int32))] []) _
            refine go1 (fun _ => XS.iconst X0.here hx rfl (hb hby at_87)) ?_
            show Go p.tables e below s₁ (mkF m 88 #[.val (.int p1), .val (.int p2), .val (.int ((8230 : Int32) + (p1 % (8 : Int32)))), .val (.int (((p2.toUInt32 >>> ((1 : Int32) &&& 31).toUInt32).toInt32) % (3 : Int32))), .val (.int (8230 : Int32))] [(.int (1 : Int32))]) _
            refine go1 (fun _ => XS.goto X0.here hx rfl (pc0 := 88) (pc' := 92) rfl (hb hby at_88) (by decide) (by decide)) ?_
            show Go p.tables e below s₁ (mkF m 92 #[.val (.int p1), .val (.int p2), .val (.int ((8230 : Int32) + (p1 % (8 : Int32)))), .val (.int (((p2.toUInt32 >>> ((1 : Int32) &&& 31).toUInt32).toInt32) % (3 : Int32))), .val (.int (8230 : Int32))] [(.int (1 : Int32))]) _
            refine go1 (fun _ => XS.istoreN X0.here hx rfl (hb hby at_92) rfl (l' := #[.val (.int p1), .val (.int p2), .val (.int ((8230 : Int32) + (p1 % (8 : Int32)))), .val (.int (1 : Int32)), .val (.int (8230 : Int32))]) rfl) ?_
            show Go p.tables e below s₁ (mkF m 93 #[.val (.int p1), .val (.int p2), .val (.int ((8230 : Int32) + (p1 % (8 : Int32)))), .val (.int (1 : Int32)), .val (.int (8230 : Int32))] []) _
            refine go1 (fun _ => XS.iloadN X0.here hx rfl (hb hby at_93) rfl) ?_
            show Go p.tables e below s₁ (mkF m 94 #[.val (.int p1), .val (.int p2), .val (.int ((8230 : Int32) + (p1 % (8 : Int32)))), .val (.int (1 : Int32)), .val (.int (8230 : Int32))] [(.int ((8230 : Int32) + (p1 % (8 : Int32))))]) _
            obtain ⟨_, _, ⟨T80, L80, k80, n80⟩, -, X80, ⟨Lc80, hQ80, l80, y80, z80⟩, st80⟩ := Jvm.LawKit.callS X0 hx (y := (⟨"com/example/isolatrix/isolatrix/TextCursor", "isLineBreak", "(I)Z"⟩ : MethodName)) hown (mvT hZ (hw _ (List.mem_of_getElem? (i := 0) rfl))) (mvT hZ (hw _ (List.mem_of_getElem? (i := 1) rfl))) (mvT hZ (hw _ (List.mem_of_getElem? (i := 2) rfl))) (mvT hZ (hw _ (List.mem_of_getElem? (i := 3) rfl))) (by decide) (backOf (W := 0) (rm1 l Z a0 hw [] ((8230 : Int32) + (p1 % (8 : Int32))) h0 n0 Z0 ) hZ (hw _ (List.mem_of_getElem? (i := 3) rfl)) (hw _ (List.mem_of_getElem? (i := 2) rfl)) (by decide) (by decide)) (g := (mkF m 94 #[.val (.int p1), .val (.int p2), .val (.int ((8230 : Int32) + (p1 % (8 : Int32)))), .val (.int (1 : Int32)), .val (.int (8230 : Int32))] [(.int ((8230 : Int32) + (p1 % (8 : Int32))))])) rfl (by rw [hml]; rfl) (argsL := [(.int ((8230 : Int32) + (p1 % (8 : Int32))))]) (rest := []) (lenOf pd0_0 rfl) rfl (by show 2 * 0 + _ ≤ _; exact Nat.le_of_eq rfl) (hb hby at_94) (fun _ _ => ⟨rfl, e0, (by decide : 0 + 0 ≤ _), (by decide : 0 + 0 ≤ _)⟩)
            dsimp only [Pt.U, Pt.locs, Pt.cells, Pt.slots] at X80 l80 y80 z80 st80 hQ80
            subst l80 y80 z80
            obtain ⟨rfl, N80q, e80⟩ := hQ80
            have N80 := Fr.app N0 N80q
            refine go1 st80 ?_
            show Go p.tables e below T80 (mkF m 97 #[.val (.int p1), .val (.int p2), .val (.int ((8230 : Int32) + (p1 % (8 : Int32)))), .val (.int (1 : Int32)), .val (.int (8230 : Int32))] [(.int (own_1 ((8230 : Int32) + (p1 % (8 : Int32)))))]) _
            refine go1 (fun _ => XS.iloadN X80.here hx rfl (hb hby at_97) rfl) ?_
            show Go p.tables e below T80 (mkF m 98 #[.val (.int p1), .val (.int p2), .val (.int ((8230 : Int32) + (p1 % (8 : Int32)))), .val (.int (1 : Int32)), .val (.int (8230 : Int32))] [(.int (1 : Int32)), (.int (own_1 ((8230 : Int32) + (p1 % (8 : Int32)))))]) _
            by_cases hc81 : (own_1 ((8230 : Int32) + (p1 % (8 : Int32)))) = (1 : Int32)
            · skip
              refine go1 (fun _ => XS.icmpNo X80.here hx rfl (hb hby at_98) rfl (teq hc81).2) ?_
              show Go p.tables e below T80 (mkF m 101 #[.val (.int p1), .val (.int p2), .val (.int ((8230 : Int32) + (p1 % (8 : Int32)))), .val (.int (1 : Int32)), .val (.int (8230 : Int32))] []) _
              refine go1 (fun _ => XS.iconst X80.here hx rfl (hb hby at_101)) ?_
              show Go p.tables e below T80 (mkF m 102 #[.val (.int p1), .val (.int p2), .val (.int ((8230 : Int32) + (p1 % (8 : Int32)))), .val (.int (1 : Int32)), .val (.int (8230 : Int32))] [(.int (1 : Int32))]) _
              refine go1 (fun _ => XS.goto X80.here hx rfl (pc0 := 102) (pc' := 106) rfl (hb hby at_102) (by decide) (by decide)) ?_
              show Go p.tables e below T80 (mkF m 106 #[.val (.int p1), .val (.int p2), .val (.int ((8230 : Int32) + (p1 % (8 : Int32)))), .val (.int (1 : Int32)), .val (.int (8230 : Int32))] [(.int (1 : Int32))]) _
              refine goR X80 (BodyLoose.notSynchronized Bd) (v := (some (.int (1 : Int32)))) (fun h => by rw [Bd.returns] at h; cases h) (Q0 Z p1 p2 h0 n0) (fun fs hr => retN X80 hx (t := .boolean) Bd.returns (by simp) (hb hby at_106) hr) (by decide) (by decide) ?_
              show Q0 Z p1 p2 h0 n0 _ T80.heap _
              rw [e80]
              exact ⟨(by rw [own_0, if_pos hc1, if_neg hc2, if_neg hc29, if_neg hc56, if_neg hc68, if_pos hc81]), N80⟩
            · skip
              refine go1 (fun _ => XS.icmpYes X80.here hx rfl (pc0 := 98) (pc' := 105) rfl (hb hby at_98) rfl (feq hc81).2 (by decide) (by decide)) ?_
              show Go p.tables e below T80 (mkF m 105 #[.val (.int p1), .val (.int p2), .val (.int ((8230 : Int32) + (p1 % (8 : Int32)))), .val (.int (1 : Int32)), .val (.int (8230 : Int32))] []) _
              refine go1 (fun _ => XS.iconst X80.here hx rfl (hb hby at_105)) ?_
              show Go p.tables e below T80 (mkF m 106 #[.val (.int p1), .val (.int p2), .val (.int ((8230 : Int32) + (p1 % (8 : Int32)))), .val (.int (1 : Int32)), .val (.int (8230 : Int32))] [(.int (0 : Int32))]) _
              refine goR X80 (BodyLoose.notSynchronized Bd) (v := (some (.int (0 : Int32)))) (fun h => by rw [Bd.returns] at h; cases h) (Q0 Z p1 p2 h0 n0) (fun fs hr => retN X80 hx (t := .boolean) Bd.returns (by simp) (hb hby at_106) hr) (by decide) (by decide) ?_
              show Q0 Z p1 p2 h0 n0 _ T80.heap _
              rw [e80]
              exact ⟨(by rw [own_0, if_pos hc1, if_neg hc2, if_neg hc29, if_neg hc56, if_neg hc68, if_neg hc81]), N80⟩
  · skip
    refine go1 (fun _ => XS.ifNo X0.here hx rfl (hb hby at_3) rfl ((if0 _ _).trans (feq hc1).1)) ?_
    show Go p.tables e below s₁ (mkF m 6 #[.val (.int p1), .val (.int p2), .unset, .unset, .unset] []) _
    refine go1 (fun _ => XS.iloadN X0.here hx rfl (hb hby at_6) rfl) ?_
    show Go p.tables e below s₁ (mkF m 7 #[.val (.int p1), .val (.int p2), .unset, .unset, .unset] [(.int p1)]) _
    refine go1 (fun _ => XS.istoreN X0.here hx rfl (hb hby at_7) rfl (l' := #[.val (.int p1), .val (.int p2), .val (.int p1), .unset, .unset]) rfl) ?_
    show Go p.tables e below s₁ (mkF m 8 #[.val (.int p1), .val (.int p2), .val (.int p1), .unset, .unset] []) _
    refine go1 (fun _ => XS.goto X0.here hx rfl (pc0 := 8) (pc' := 54) rfl (hb hby at_8) (by decide) (by decide)) ?_
    show Go p.tables e below s₁ (mkF m 54 #[.val (.int p1), .val (.int p2), .val (.int p1), .unset, .unset] []) _
    refine go1 (fun _ => XS.iloadN X0.here hx rfl (hb hby at_54) rfl) ?_
    show Go p.tables e below s₁ (mkF m 55 #[.val (.int p1), .val (.int p2), .val (.int p1), .unset, .unset] [(.int p1)]) _
    refine go1 (fun _ => XS.bipush X0.here hx rfl (hb hby at_55)) ?_
    show Go p.tables e below s₁ (mkF m 57 #[.val (.int p1), .val (.int p2), .val (.int p1), .unset, .unset] [(.int (10 : Int32)), (.int p1)]) _
    by_cases hc82 : p1 < (10 : Int32)
    · skip
      refine go1 (fun _ => XS.icmpYes X0.here hx rfl (pc0 := 57) (pc' := 66) rfl (hb hby at_57) rfl (tlt hc82).1 (by decide) (by decide)) ?_
      show Go p.tables e below s₁ (mkF m 66 #[.val (.int p1), .val (.int p2), .val (.int p1), .unset, .unset] []) _
      refine go1 (fun _ => XS.iloadN X0.here hx rfl (hb hby at_66) rfl) ?_
      show Go p.tables e below s₁ (mkF m 67 #[.val (.int p1), .val (.int p2), .val (.int p1), .unset, .unset] [(.int p1)]) _
      refine go1 (fun _ => XS.sipush X0.here hx rfl (hb hby at_67)) ?_
      show Go p.tables e below s₁ (mkF m 70 #[.val (.int p1), .val (.int p2), .val (.int p1), .unset, .unset] [(.int (133 : Int32)), (.int p1)]) _
      by_cases hc83 : p1 = (133 : Int32)
      · skip
        refine go1 (fun _ => XS.icmpYes X0.here hx rfl (pc0 := 70) (pc' := 87) rfl (hb hby at_70) rfl (teq hc83).1 (by decide) (by decide)) ?_
        show Go p.tables e below s₁ (mkF m 87 #[.val (.int p1), .val (.int p2), .val (.int p1), .unset, .unset] []) _
        refine go1 (fun _ => XS.iconst X0.here hx rfl (hb hby at_87)) ?_
        show Go p.tables e below s₁ (mkF m 88 #[.val (.int p1), .val (.int p2), .val (.int p1), .unset, .unset] [(.int (1 : Int32))]) _
        refine go1 (fun _ => XS.goto X0.here hx rfl (pc0 := 88) (pc' := 92) rfl (hb hby at_88) (by decide) (by decide)) ?_
        show Go p.tables e below s₁ (mkF m 92 #[.val (.int p1), .val (.int p2), .val (.int p1), .unset, .unset] [(.int (1 : Int32))]) _
        refine go1 (fun _ => XS.istoreN X0.here hx rfl (hb hby at_92) rfl (l' := #[.val (.int p1), .val (.int p2), .val (.int p1), .val (.int (1 : Int32)), .unset]) rfl) ?_
        show Go p.tables e below s₁ (mkF m 93 #[.val (.int p1), .val (.int p2), .val (.int p1), .val (.int (1 : Int32)), .unset] []) _
        refine go1 (fun _ => XS.iloadN X0.here hx rfl (hb hby at_93) rfl) ?_
        show Go p.tables e below s₁ (mkF m 94 #[.val (.int p1), .val (.int p2), .val (.int p1), .val (.int (1 : Int32)), .unset] [(.int p1)]) _
        obtain ⟨_, _, ⟨T84, L84, k84, n84⟩, -, X84, ⟨Lc84, hQ84, l84, y84, z84⟩, st84⟩ := Jvm.LawKit.callS X0 hx (y := (⟨"com/example/isolatrix/isolatrix/TextCursor", "isLineBreak", "(I)Z"⟩ : MethodName)) hown (mvT hZ (hw _ (List.mem_of_getElem? (i := 0) rfl))) (mvT hZ (hw _ (List.mem_of_getElem? (i := 1) rfl))) (mvT hZ (hw _ (List.mem_of_getElem? (i := 2) rfl))) (mvT hZ (hw _ (List.mem_of_getElem? (i := 3) rfl))) (by decide) (backOf (W := 0) (rm1 l Z a0 hw [] p1 h0 n0 Z0 ) hZ (hw _ (List.mem_of_getElem? (i := 3) rfl)) (hw _ (List.mem_of_getElem? (i := 2) rfl)) (by decide) (by decide)) (g := (mkF m 94 #[.val (.int p1), .val (.int p2), .val (.int p1), .val (.int (1 : Int32)), .unset] [(.int p1)])) rfl (by rw [hml]; rfl) (argsL := [(.int p1)]) (rest := []) (lenOf pd0_0 rfl) rfl (by show 2 * 0 + _ ≤ _; exact Nat.le_of_eq rfl) (hb hby at_94) (fun _ _ => ⟨rfl, e0, (by decide : 0 + 0 ≤ _), (by decide : 0 + 0 ≤ _)⟩)
        dsimp only [Pt.U, Pt.locs, Pt.cells, Pt.slots] at X84 l84 y84 z84 st84 hQ84
        subst l84 y84 z84
        obtain ⟨rfl, N84q, e84⟩ := hQ84
        have N84 := Fr.app N0 N84q
        refine go1 st84 ?_
        show Go p.tables e below T84 (mkF m 97 #[.val (.int p1), .val (.int p2), .val (.int p1), .val (.int (1 : Int32)), .unset] [(.int (own_1 p1))]) _
        refine go1 (fun _ => XS.iloadN X84.here hx rfl (hb hby at_97) rfl) ?_
        show Go p.tables e below T84 (mkF m 98 #[.val (.int p1), .val (.int p2), .val (.int p1), .val (.int (1 : Int32)), .unset] [(.int (1 : Int32)), (.int (own_1 p1))]) _
        by_cases hc85 : (own_1 p1) = (1 : Int32)
        · skip
          refine go1 (fun _ => XS.icmpNo X84.here hx rfl (hb hby at_98) rfl (teq hc85).2) ?_
          show Go p.tables e below T84 (mkF m 101 #[.val (.int p1), .val (.int p2), .val (.int p1), .val (.int (1 : Int32)), .unset] []) _
          refine go1 (fun _ => XS.iconst X84.here hx rfl (hb hby at_101)) ?_
          show Go p.tables e below T84 (mkF m 102 #[.val (.int p1), .val (.int p2), .val (.int p1), .val (.int (1 : Int32)), .unset] [(.int (1 : Int32))]) _
          refine go1 (fun _ => XS.goto X84.here hx rfl (pc0 := 102) (pc' := 106) rfl (hb hby at_102) (by decide) (by decide)) ?_
          show Go p.tables e below T84 (mkF m 106 #[.val (.int p1), .val (.int p2), .val (.int p1), .val (.int (1 : Int32)), .unset] [(.int (1 : Int32))]) _
          refine goR X84 (BodyLoose.notSynchronized Bd) (v := (some (.int (1 : Int32)))) (fun h => by rw [Bd.returns] at h; cases h) (Q0 Z p1 p2 h0 n0) (fun fs hr => retN X84 hx (t := .boolean) Bd.returns (by simp) (hb hby at_106) hr) (by decide) (by decide) ?_
          show Q0 Z p1 p2 h0 n0 _ T84.heap _
          rw [e84]
          exact ⟨(by rw [own_0, if_neg hc1, if_pos hc82, if_pos hc83, if_pos hc85]), N84⟩
        · skip
          refine go1 (fun _ => XS.icmpYes X84.here hx rfl (pc0 := 98) (pc' := 105) rfl (hb hby at_98) rfl (feq hc85).2 (by decide) (by decide)) ?_
          show Go p.tables e below T84 (mkF m 105 #[.val (.int p1), .val (.int p2), .val (.int p1), .val (.int (1 : Int32)), .unset] []) _
          refine go1 (fun _ => XS.iconst X84.here hx rfl (hb hby at_105)) ?_
          show Go p.tables e below T84 (mkF m 106 #[.val (.int p1), .val (.int p2), .val (.int p1), .val (.int (1 : Int32)), .unset] [(.int (0 : Int32))]) _
          refine goR X84 (BodyLoose.notSynchronized Bd) (v := (some (.int (0 : Int32)))) (fun h => by rw [Bd.returns] at h; cases h) (Q0 Z p1 p2 h0 n0) (fun fs hr => retN X84 hx (t := .boolean) Bd.returns (by simp) (hb hby at_106) hr) (by decide) (by decide) ?_
          show Q0 Z p1 p2 h0 n0 _ T84.heap _
          rw [e84]
          exact ⟨(by rw [own_0, if_neg hc1, if_pos hc82, if_pos hc83, if_neg hc85]), N84⟩
      · skip
        refine go1 (fun _ => XS.icmpNo X0.here hx rfl (hb hby at_70) rfl (feq hc83).1) ?_
        show Go p.tables e below s₁ (mkF m 73 #[.val (.int p1), .val (.int p2), .val (.int p1), .unset, .unset] []) _
        refine go1 (fun _ => XS.iloadN X0.here hx rfl (hb hby at_73) rfl) ?_
        show Go p.tables e below s₁ (mkF m 74 #[.val (.int p1), .val (.int p2), .val (.int p1), .unset, .unset] [(.int p1)]) _
        refine go1 (fun _ => XS.sipush X0.here hx rfl (hb hby at_74)) ?_
        show Go p.tables e below s₁ (mkF m 77 #[.val (.int p1), .val (.int p2), .val (.int p1), .unset, .unset] [(.int (8232 : Int32)), (.int p1)]) _
        by_cases hc86 : p1 < (8232 : Int32)
        · skip
          refine go1 (fun _ => XS.icmpYes X0.here hx rfl (pc0 := 77) (pc' := 91) rfl (hb hby at_77) rfl (tlt hc86).1 (by decide) (by decide)) ?_
          show Go p.tables e below s₁ (mkF m 91 #[.val (.int p1), .val (.int p2), .val (.int p1), .unset, .unset] []) _
          refine go1 (fun _ => XS.iconst X0.here hx rfl (hb hby at_91)) ?_
          show Go p.tables e below s₁ (mkF m 92 #[.val (.int p1), .val (.int p2), .val (.int p1), .unset, .unset] [(.int (0 : Int32))]) _
          refine go1 (fun _ => XS.istoreN X0.here hx rfl (hb hby at_92) rfl (l' := #[.val (.int p1), .val (.int p2), .val (.int p1), .val (.int (0 : Int32)), .unset]) rfl) ?_
          show Go p.tables e below s₁ (mkF m 93 #[.val (.int p1), .val (.int p2), .val (.int p1), .val (.int (0 : Int32)), .unset] []) _
          refine go1 (fun _ => XS.iloadN X0.here hx rfl (hb hby at_93) rfl) ?_
          show Go p.tables e below s₁ (mkF m 94 #[.val (.int p1), .val (.int p2), .val (.int p1), .val (.int (0 : Int32)), .unset] [(.int p1)]) _
          obtain ⟨_, _, ⟨T87, L87, k87, n87⟩, -, X87, ⟨Lc87, hQ87, l87, y87, z87⟩, st87⟩ := Jvm.LawKit.callS X0 hx (y := (⟨"com/example/isolatrix/isolatrix/TextCursor", "isLineBreak", "(I)Z"⟩ : MethodName)) hown (mvT hZ (hw _ (List.mem_of_getElem? (i := 0) rfl))) (mvT hZ (hw _ (List.mem_of_getElem? (i := 1) rfl))) (mvT hZ (hw _ (List.mem_of_getElem? (i := 2) rfl))) (mvT hZ (hw _ (List.mem_of_getElem? (i := 3) rfl))) (by decide) (backOf (W := 0) (rm1 l Z a0 hw [] p1 h0 n0 Z0 ) hZ (hw _ (List.mem_of_getElem? (i := 3) rfl)) (hw _ (List.mem_of_getElem? (i := 2) rfl)) (by decide) (by decide)) (g := (mkF m 94 #[.val (.int p1), .val (.int p2), .val (.int p1), .val (.int (0 : Int32)), .unset] [(.int p1)])) rfl (by rw [hml]; rfl) (argsL := [(.int p1)]) (rest := []) (lenOf pd0_0 rfl) rfl (by show 2 * 0 + _ ≤ _; exact Nat.le_of_eq rfl) (hb hby at_94) (fun _ _ => ⟨rfl, e0, (by decide : 0 + 0 ≤ _), (by decide : 0 + 0 ≤ _)⟩)
          dsimp only [Pt.U, Pt.locs, Pt.cells, Pt.slots] at X87 l87 y87 z87 st87 hQ87
          subst l87 y87 z87
          obtain ⟨rfl, N87q, e87⟩ := hQ87
          have N87 := Fr.app N0 N87q
          refine go1 st87 ?_
          show Go p.tables e below T87 (mkF m 97 #[.val (.int p1), .val (.int p2), .val (.int p1), .val (.int (0 : Int32)), .unset] [(.int (own_1 p1))]) _
          refine go1 (fun _ => XS.iloadN X87.here hx rfl (hb hby at_97) rfl) ?_
          show Go p.tables e below T87 (mkF m 98 #[.val (.int p1), .val (.int p2), .val (.int p1), .val (.int (0 : Int32)), .unset] [(.int (0 : Int32)), (.int (own_1 p1))]) _
          by_cases hc88 : (own_1 p1) = (0 : Int32)
          · skip
            refine go1 (fun _ => XS.icmpNo X87.here hx rfl (hb hby at_98) rfl (teq hc88).2) ?_
            show Go p.tables e below T87 (mkF m 101 #[.val (.int p1), .val (.int p2), .val (.int p1), .val (.int (0 : Int32)), .unset] []) _
            refine go1 (fun _ => XS.iconst X87.here hx rfl (hb hby at_101)) ?_
            show Go p.tables e below T87 (mkF m 102 #[.val (.int p1), .val (.int p2), .val (.int p1), .val (.int (0 : Int32)), .unset] [(.int (1 : Int32))]) _
            refine go1 (fun _ => XS.goto X87.here hx rfl (pc0 := 102) (pc' := 106) rfl (hb hby at_102) (by decide) (by decide)) ?_
            show Go p.tables e below T87 (mkF m 106 #[.val (.int p1), .val (.int p2), .val (.int p1), .val (.int (0 : Int32)), .unset] [(.int (1 : Int32))]) _
            refine goR X87 (BodyLoose.notSynchronized Bd) (v := (some (.int (1 : Int32)))) (fun h => by rw [Bd.returns] at h; cases h) (Q0 Z p1 p2 h0 n0) (fun fs hr => retN X87 hx (t := .boolean) Bd.returns (by simp) (hb hby at_106) hr) (by decide) (by decide) ?_
            show Q0 Z p1 p2 h0 n0 _ T87.heap _
            rw [e87]
            exact ⟨(by rw [own_0, if_neg hc1, if_pos hc82, if_neg hc83, if_pos hc86, if_pos hc88]), N87⟩
          · skip
            refine go1 (fun _ => XS.icmpYes X87.here hx rfl (pc0 := 98) (pc' := 105) rfl (hb hby at_98) rfl (feq hc88).2 (by decide) (by decide)) ?_
            show Go p.tables e below T87 (mkF m 105 #[.val (.int p1), .val (.int p2), .val (.int p1), .val (.int (0 : Int32)), .unset] []) _
            refine go1 (fun _ => XS.iconst X87.here hx rfl (hb hby at_105)) ?_
            show Go p.tables e below T87 (mkF m 106 #[.val (.int p1), .val (.int p2), .val (.int p1), .val (.int (0 : Int32)), .unset] [(.int (0 : Int32))]) _
            refine goR X87 (BodyLoose.notSynchronized Bd) (v := (some (.int (0 : Int32)))) (fun h => by rw [Bd.returns] at h; cases h) (Q0 Z p1 p2 h0 n0) (fun fs hr => retN X87 hx (t := .boolean) Bd.returns (by simp) (hb hby at_106) hr) (by decide) (by decide) ?_
            show Q0 Z p1 p2 h0 n0 _ T87.heap _
            rw [e87]
            exact ⟨(by rw [own_0, if_neg hc1, if_pos hc82, if_neg hc83, if_pos hc86, if_neg hc88]), N87⟩
        · skip
          refine go1 (fun _ => XS.icmpNo X0.here hx rfl (hb hby at_77) rfl (flt hc86).1) ?_
          show Go p.tables e below s₁ (mkF m 80 #[.val (.int p1), .val (.int p2), .val (.int p1), .unset, .unset] []) _
          refine go1 (fun _ => XS.iloadN X0.here hx rfl (hb hby at_80) rfl) ?_
          show Go p.tables e below s₁ (mkF m 81 #[.val (.int p1), .val (.int p2), .val (.int p1), .unset, .unset] [(.int p1)]) _
          refine go1 (fun _ => XS.sipush X0.here hx rfl (hb hby at_81)) ?_
          show Go p.tables e below s₁ (mkF m 84 #[.val (.int p1), .val (.int p2), .val (.int p1), .unset, .unset] [(.int (8233 : Int32)), (.int p1)]) _
          by_cases hc89 : (8233 : Int32) < p1
          · skip
            refine go1 (fun _ => XS.icmpYes X0.here hx rfl (pc0 := 84) (pc' := 91) rfl (hb hby at_84) rfl (tlt hc89).2.2.1 (by decide) (by decide)) ?_
            show Go p.tables e below s₁ (mkF m 91 #[.val (.int p1), .val (.int p2), .val (.int p1), .unset, .unset] []) _
            refine go1 (fun _ => XS.iconst X0.here hx rfl (hb hby at_91)) ?_
            show Go p.tables e below s₁ (mkF m 92 #[.val (.int p1), .val (.int p2), .val (.int p1), .unset, .unset] [(.int (0 : Int32))]) _
            refine go1 (fun _ => XS.istoreN X0.here hx rfl (hb hby at_92) rfl (l' := #[.val (.int p1), .val (.int p2), .val (.int p1), .val (.int (0 : Int32)), .unset]) rfl) ?_
            show Go p.tables e below s₁ (mkF m 93 #[.val (.int p1), .val (.int p2), .val (.int p1), .val (.int (0 : Int32)), .unset] []) _
            refine go1 (fun _ => XS.iloadN X0.here hx rfl (hb hby at_93) rfl) ?_
            show Go p.tables e below s₁ (mkF m 94 #[.val (.int p1), .val (.int p2), .val (.int p1), .val (.int (0 : Int32)), .unset] [(.int p1)]) _
            obtain ⟨_, _, ⟨T90, L90, k90, n90⟩, -, X90, ⟨Lc90, hQ90, l90, y90, z90⟩, st90⟩ := Jvm.LawKit.callS X0 hx (y := (⟨"com/example/isolatrix/isolatrix/TextCursor", "isLineBreak", "(I)Z"⟩ : MethodName)) hown (mvT hZ (hw _ (List.mem_of_getElem? (i := 0) rfl))) (mvT hZ (hw _ (List.mem_of_getElem? (i := 1) rfl))) (mvT hZ (hw _ (List.mem_of_getElem? (i := 2) rfl))) (mvT hZ (hw _ (List.mem_of_getElem? (i := 3) rfl))) (by decide) (backOf (W := 0) (rm1 l Z a0 hw [] p1 h0 n0 Z0 ) hZ (hw _ (List.mem_of_getElem? (i := 3) rfl)) (hw _ (List.mem_of_getElem? (i := 2) rfl)) (by decide) (by decide)) (g := (mkF m 94 #[.val (.int p1), .val (.int p2), .val (.int p1), .val (.int (0 : Int32)), .unset] [(.int p1)])) rfl (by rw [hml]; rfl) (argsL := [(.int p1)]) (rest := []) (lenOf pd0_0 rfl) rfl (by show 2 * 0 + _ ≤ _; exact Nat.le_of_eq rfl) (hb hby at_94) (fun _ _ => ⟨rfl, e0, (by decide : 0 + 0 ≤ _), (by decide : 0 + 0 ≤ _)⟩)
            dsimp only [Pt.U, Pt.locs, Pt.cells, Pt.slots] at X90 l90 y90 z90 st90 hQ90
            subst l90 y90 z90
            obtain ⟨rfl, N90q, e90⟩ := hQ90
            have N90 := Fr.app N0 N90q
            refine go1 st90 ?_
            show Go p.tables e below T90 (mkF m 97 #[.val (.int p1), .val (.int p2), .val (.int p1), .val (.int (0 : Int32)), .unset] [(.int (own_1 p1))]) _
            refine go1 (fun _ => XS.iloadN X90.here hx rfl (hb hby at_97) rfl) ?_
            show Go p.tables e below T90 (mkF m 98 #[.val (.int p1), .val (.int p2), .val (.int p1), .val (.int (0 : Int32)), .unset] [(.int (0 : Int32)), (.int (own_1 p1))]) _
            by_cases hc91 : (own_1 p1) = (0 : Int32)
            · skip
              refine go1 (fun _ => XS.icmpNo X90.here hx rfl (hb hby at_98) rfl (teq hc91).2) ?_
              show Go p.tables e below T90 (mkF m 101 #[.val (.int p1), .val (.int p2), .val (.int p1), .val (.int (0 : Int32)), .unset] []) _
              refine go1 (fun _ => XS.iconst X90.here hx rfl (hb hby at_101)) ?_
              show Go p.tables e below T90 (mkF m 102 #[.val (.int p1), .val (.int p2), .val (.int p1), .val (.int (0 : Int32)), .unset] [(.int (1 : Int32))]) _
              refine go1 (fun _ => XS.goto X90.here hx rfl (pc0 := 102) (pc' := 106) rfl (hb hby at_102) (by decide) (by decide)) ?_
              show Go p.tables e below T90 (mkF m 106 #[.val (.int p1), .val (.int p2), .val (.int p1), .val (.int (0 : Int32)), .unset] [(.int (1 : Int32))]) _
              refine goR X90 (BodyLoose.notSynchronized Bd) (v := (some (.int (1 : Int32)))) (fun h => by rw [Bd.returns] at h; cases h) (Q0 Z p1 p2 h0 n0) (fun fs hr => retN X90 hx (t := .boolean) Bd.returns (by simp) (hb hby at_106) hr) (by decide) (by decide) ?_
              show Q0 Z p1 p2 h0 n0 _ T90.heap _
              rw [e90]
              exact ⟨(by rw [own_0, if_neg hc1, if_pos hc82, if_neg hc83, if_neg hc86, if_pos hc89, if_pos hc91]), N90⟩
            · skip
              refine go1 (fun _ => XS.icmpYes X90.here hx rfl (pc0 := 98) (pc' := 105) rfl (hb hby at_98) rfl (feq hc91).2 (by decide) (by decide)) ?_
              show Go p.tables e below T90 (mkF m 105 #[.val (.int p1), .val (.int p2), .val (.int p1), .val (.int (0 : Int32)), .unset] []) _
              refine go1 (fun _ => XS.iconst X90.here hx rfl (hb hby at_105)) ?_
              show Go p.tables e below T90 (mkF m 106 #[.val (.int p1), .val (.int p2), .val (.int p1), .val (.int (0 : Int32)), .unset] [(.int (0 : Int32))]) _
              refine goR X90 (BodyLoose.notSynchronized Bd) (v := (some (.int (0 : Int32)))) (fun h => by rw [Bd.returns] at h; cases h) (Q0 Z p1 p2 h0 n0) (fun fs hr => retN X90 hx (t := .boolean) Bd.returns (by simp) (hb hby at_106) hr) (by decide) (by decide) ?_
              show Q0 Z p1 p2 h0 n0 _ T90.heap _
              rw [e90]
              exact ⟨(by rw [own_0, if_neg hc1, if_pos hc82, if_neg hc83, if_neg hc86, if_pos hc89, if_neg hc91]), N90⟩
          · skip
            refine go1 (fun _ => XS.icmpNo X0.here hx rfl (hb hby at_84) rfl (flt hc89).2.2.1) ?_
            show Go p.tables e below s₁ (mkF m 87 #[.val (.int p1), .val (.int p2), .val (.int p1), .unset, .unset] []) _
            refine go1 (fun _ => XS.iconst X0.here hx rfl (hb hby at_87)) ?_
            show Go p.tables e below s₁ (mkF m 88 #[.val (.int p1), .val (.int p2), .val (.int p1), .unset, .unset] [(.int (1 : Int32))]) _
            refine go1 (fun _ => XS.goto X0.here hx rfl (pc0 := 88) (pc' := 92) rfl (hb hby at_88) (by decide) (by decide)) ?_
            show Go p.tables e below s₁ (mkF m 92 #[.val (.int p1), .val (.int p2), .val (.int p1), .unset, .unset] [(.int (1 : Int32))]) _
            refine go1 (fun _ => XS.istoreN X0.here hx rfl (hb hby at_92) rfl (l' := #[.val (.int p1), .val (.int p2), .val (.int p1), .val (.int (1 : Int32)), .unset]) rfl) ?_
            show Go p.tables e below s₁ (mkF m 93 #[.val (.int p1), .val (.int p2), .val (.int p1), .val (.int (1 : Int32)), .unset] []) _
            refine go1 (fun _ => XS.iloadN X0.here hx rfl (hb hby at_93) rfl) ?_
            show Go p.tables e below s₁ (mkF m 94 #[.val (.int p1), .val (.int p2), .val (.int p1), .val (.int (1 : Int32)), .unset] [(.int p1)]) _
            obtain ⟨_, _, ⟨T92, L92, k92, n92⟩, -, X92, ⟨Lc92, hQ92, l92, y92, z92⟩, st92⟩ := Jvm.LawKit.callS X0 hx (y := (⟨"com/example/isolatrix/isolatrix/TextCursor", "isLineBreak", "(I)Z"⟩ : MethodName)) hown (mvT hZ (hw _ (List.mem_of_getElem? (i := 0) rfl))) (mvT hZ (hw _ (List.mem_of_getElem? (i := 1) rfl))) (mvT hZ (hw _ (List.mem_of_getElem? (i := 2) rfl))) (mvT hZ (hw _ (List.mem_of_getElem? (i := 3) rfl))) (by decide) (backOf (W := 0) (rm1 l Z a0 hw [] p1 h0 n0 Z0 ) hZ (hw _ (List.mem_of_getElem? (i := 3) rfl)) (hw _ (List.mem_of_getElem? (i := 2) rfl)) (by decide) (by decide)) (g := (mkF m 94 #[.val (.int p1), .val (.int p2), .val (.int p1), .val (.int (1 : Int32)), .unset] [(.int p1)])) rfl (by rw [hml]; rfl) (argsL := [(.int p1)]) (rest := []) (lenOf pd0_0 rfl) rfl (by show 2 * 0 + _ ≤ _; exact Nat.le_of_eq rfl) (hb hby at_94) (fun _ _ => ⟨rfl, e0, (by decide : 0 + 0 ≤ _), (by decide : 0 + 0 ≤ _)⟩)
            dsimp only [Pt.U, Pt.locs, Pt.cells, Pt.slots] at X92 l92 y92 z92 st92 hQ92
            subst l92 y92 z92
            obtain ⟨rfl, N92q, e92⟩ := hQ92
            have N92 := Fr.app N0 N92q
            refine go1 st92 ?_
            show Go p.tables e below T92 (mkF m 97 #[.val (.int p1), .val (.int p2), .val (.int p1), .val (.int (1 : Int32)), .unset] [(.int (own_1 p1))]) _
            refine go1 (fun _ => XS.iloadN X92.here hx rfl (hb hby at_97) rfl) ?_
            show Go p.tables e below T92 (mkF m 98 #[.val (.int p1), .val (.int p2), .val (.int p1), .val (.int (1 : Int32)), .unset] [(.int (1 : Int32)), (.int (own_1 p1))]) _
            by_cases hc93 : (own_1 p1) = (1 : Int32)
            · skip
              refine go1 (fun _ => XS.icmpNo X92.here hx rfl (hb hby at_98) rfl (teq hc93).2) ?_
              show Go p.tables e below T92 (mkF m 101 #[.val (.int p1), .val (.int p2), .val (.int p1), .val (.int (1 : Int32)), .unset] []) _
              refine go1 (fun _ => XS.iconst X92.here hx rfl (hb hby at_101)) ?_
              show Go p.tables e below T92 (mkF m 102 #[.val (.int p1), .val (.int p2), .val (.int p1), .val (.int (1 : Int32)), .unset] [(.int (1 : Int32))]) _
              refine go1 (fun _ => XS.goto X92.here hx rfl (pc0 := 102) (pc' := 106) rfl (hb hby at_102) (by decide) (by decide)) ?_
              show Go p.tables e below T92 (mkF m 106 #[.val (.int p1), .val (.int p2), .val (.int p1), .val (.int (1 : Int32)), .unset] [(.int (1 : Int32))]) _
              refine goR X92 (BodyLoose.notSynchronized Bd) (v := (some (.int (1 : Int32)))) (fun h => by rw [Bd.returns] at h; cases h) (Q0 Z p1 p2 h0 n0) (fun fs hr => retN X92 hx (t := .boolean) Bd.returns (by simp) (hb hby at_106) hr) (by decide) (by decide) ?_
              show Q0 Z p1 p2 h0 n0 _ T92.heap _
              rw [e92]
              exact ⟨(by rw [own_0, if_neg hc1, if_pos hc82, if_neg hc83, if_neg hc86, if_neg hc89, if_pos hc93]), N92⟩
            · skip
              refine go1 (fun _ => XS.icmpYes X92.here hx rfl (pc0 := 98) (pc' := 105) rfl (hb hby at_98) rfl (feq hc93).2 (by decide) (by decide)) ?_
              show Go p.tables e below T92 (mkF m 105 #[.val (.int p1), .val (.int p2), .val (.int p1), .val (.int (1 : Int32)), .unset] []) _
              refine go1 (fun _ => XS.iconst X92.here hx rfl (hb hby at_105)) ?_
              show Go p.tables e below T92 (mkF m 106 #[.val (.int p1), .val (.int p2), .val (.int p1), .val (.int (1 : Int32)), .unset] [(.int (0 : Int32))]) _
              refine goR X92 (BodyLoose.notSynchronized Bd) (v := (some (.int (0 : Int32)))) (fun h => by rw [Bd.returns] at h; cases h) (Q0 Z p1 p2 h0 n0) (fun fs hr => retN X92 hx (t := .boolean) Bd.returns (by simp) (hb hby at_106) hr) (by decide) (by decide) ?_
              show Q0 Z p1 p2 h0 n0 _ T92.heap _
              rw [e92]
              exact ⟨(by rw [own_0, if_neg hc1, if_pos hc82, if_neg hc83, if_neg hc86, if_neg hc89, if_neg hc93]), N92⟩
    · skip
      refine go1 (fun _ => XS.icmpNo X0.here hx rfl (hb hby at_57) rfl (flt hc82).1) ?_
      show Go p.tables e below s₁ (mkF m 60 #[.val (.int p1), .val (.int p2), .val (.int p1), .unset, .unset] []) _
      refine go1 (fun _ => XS.iloadN X0.here hx rfl (hb hby at_60) rfl) ?_
      show Go p.tables e below s₁ (mkF m 61 #[.val (.int p1), .val (.int p2), .val (.int p1), .unset, .unset] [(.int p1)]) _
      refine go1 (fun _ => XS.bipush X0.here hx rfl (hb hby at_61)) ?_
      show Go p.tables e below s₁ (mkF m 63 #[.val (.int p1), .val (.int p2), .val (.int p1), .unset, .unset] [(.int (13 : Int32)), (.int p1)]) _
      by_cases hc94 : (13 : Int32) < p1
      · skip
        refine go1 (fun _ => XS.icmpNo X0.here hx rfl (hb hby at_63) rfl (tlt hc94).2.2.2) ?_
        show Go p.tables e below s₁ (mkF m 66 #[.val (.int p1), .val (.int p2), .val (.int p1), .unset, .unset] []) _
        refine go1 (fun _ => XS.iloadN X0.here hx rfl (hb hby at_66) rfl) ?_
        show Go p.tables e below s₁ (mkF m 67 #[.val (.int p1), .val (.int p2), .val (.int p1), .unset, .unset] [(.int p1)]) _
        refine go1 (fun _ => XS.sipush X0.here hx rfl (hb hby at_67)) ?_
        show Go p.tables e below s₁ (mkF m 70 #[.val (.int p1), .val (.int p2), .val (.int p1), .unset, .unset] [(.int (133 : Int32)), (.int p1)]) _
        by_cases hc95 : p1 = (133 : Int32)
        · skip
          refine go1 (fun _ => XS.icmpYes X0.here hx rfl (pc0 := 70) (pc' := 87) rfl (hb hby at_70) rfl (teq hc95).1 (by decide) (by decide)) ?_
          show Go p.tables e below s₁ (mkF m 87 #[.val (.int p1), .val (.int p2), .val (.int p1), .unset, .unset] []) _
          refine go1 (fun _ => XS.iconst X0.here hx rfl (hb hby at_87)) ?_
          show Go p.tables e below s₁ (mkF m 88 #[.val (.int p1), .val (.int p2), .val (.int p1), .unset, .unset] [(.int (1 : Int32))]) _
          refine go1 (fun _ => XS.goto X0.here hx rfl (pc0 := 88) (pc' := 92) rfl (hb hby at_88) (by decide) (by decide)) ?_
          show Go p.tables e below s₁ (mkF m 92 #[.val (.int p1), .val (.int p2), .val (.int p1), .unset, .unset] [(.int (1 : Int32))]) _
          refine go1 (fun _ => XS.istoreN X0.here hx rfl (hb hby at_92) rfl (l' := #[.val (.int p1), .val (.int p2), .val (.int p1), .val (.int (1 : Int32)), .unset]) rfl) ?_
          show Go p.tables e below s₁ (mkF m 93 #[.val (.int p1), .val (.int p2), .val (.int p1), .val (.int (1 : Int32)), .unset] []) _
          refine go1 (fun _ => XS.iloadN X0.here hx rfl (hb hby at_93) rfl) ?_
          show Go p.tables e below s₁ (mkF m 94 #[.val (.int p1), .val (.int p2), .val (.int p1), .val (.int (1 : Int32)), .unset] [(.int p1)]) _
          obtain ⟨_, _, ⟨T96, L96, k96, n96⟩, -, X96, ⟨Lc96, hQ96, l96, y96, z96⟩, st96⟩ := Jvm.LawKit.callS X0 hx (y := (⟨"com/example/isolatrix/isolatrix/TextCursor", "isLineBreak", "(I)Z"⟩ : MethodName)) hown (mvT hZ (hw _ (List.mem_of_getElem? (i := 0) rfl))) (mvT hZ (hw _ (List.mem_of_getElem? (i := 1) rfl))) (mvT hZ (hw _ (List.mem_of_getElem? (i := 2) rfl))) (mvT hZ (hw _ (List.mem_of_getElem? (i := 3) rfl))) (by decide) (backOf (W := 0) (rm1 l Z a0 hw [] p1 h0 n0 Z0 ) hZ (hw _ (List.mem_of_getElem? (i := 3) rfl)) (hw _ (List.mem_of_getElem? (i := 2) rfl)) (by decide) (by decide)) (g := (mkF m 94 #[.val (.int p1), .val (.int p2), .val (.int p1), .val (.int (1 : Int32)), .unset] [(.int p1)])) rfl (by rw [hml]; rfl) (argsL := [(.int p1)]) (rest := []) (lenOf pd0_0 rfl) rfl (by show 2 * 0 + _ ≤ _; exact Nat.le_of_eq rfl) (hb hby at_94) (fun _ _ => ⟨rfl, e0, (by decide : 0 + 0 ≤ _), (by decide : 0 + 0 ≤ _)⟩)
          dsimp only [Pt.U, Pt.locs, Pt.cells, Pt.slots] at X96 l96 y96 z96 st96 hQ96
          subst l96 y96 z96
          obtain ⟨rfl, N96q, e96⟩ := hQ96
          have N96 := Fr.app N0 N96q
          refine go1 st96 ?_
          show Go p.tables e below T96 (mkF m 97 #[.val (.int p1), .val (.int p2), .val (.int p1), .val (.int (1 : Int32)), .unset] [(.int (own_1 p1))]) _
          refine go1 (fun _ => XS.iloadN X96.here hx rfl (hb hby at_97) rfl) ?_
          show Go p.tables e below T96 (mkF m 98 #[.val (.int p1), .val (.int p2), .val (.int p1), .val (.int (1 : Int32)), .unset] [(.int (1 : Int32)), (.int (own_1 p1))]) _
          by_cases hc97 : (own_1 p1) = (1 : Int32)
          · skip
            refine go1 (fun _ => XS.icmpNo X96.here hx rfl (hb hby at_98) rfl (teq hc97).2) ?_
            show Go p.tables e below T96 (mkF m 101 #[.val (.int p1), .val (.int p2), .val (.int p1), .val (.int (1 : Int32)), .unset] []) _
            refine go1 (fun _ => XS.iconst X96.here hx rfl (hb hby at_101)) ?_
            show Go p.tables e below T96 (mkF m 102 #[.val (.int p1), .val (.int p2), .val (.int p1), .val (.int (1 : Int32)), .unset] [(.int (1 : Int32))]) _
            refine go1 (fun _ => XS.goto X96.here hx rfl (pc0 := 102) (pc' := 106) rfl (hb hby at_102) (by decide) (by decide)) ?_
            show Go p.tables e below T96 (mkF m 106 #[.val (.int p1), .val (.int p2), .val (.int p1), .val (.int (1 : Int32)), .unset] [(.int (1 : Int32))]) _
            refine goR X96 (BodyLoose.notSynchronized Bd) (v := (some (.int (1 : Int32)))) (fun h => by rw [Bd.returns] at h; cases h) (Q0 Z p1 p2 h0 n0) (fun fs hr => retN X96 hx (t := .boolean) Bd.returns (by simp) (hb hby at_106) hr) (by decide) (by decide) ?_
            show Q0 Z p1 p2 h0 n0 _ T96.heap _
            rw [e96]
            exact ⟨(by rw [own_0, if_neg hc1, if_neg hc82, if_pos hc94, if_pos hc95, if_pos hc97]), N96⟩
          · skip
            refine go1 (fun _ => XS.icmpYes X96.here hx rfl (pc0 := 98) (pc' := 105) rfl (hb hby at_98) rfl (feq hc97).2 (by decide) (by decide)) ?_
            show Go p.tables e below T96 (mkF m 105 #[.val (.int p1), .val (.int p2), .val (.int p1), .val (.int (1 : Int32)), .unset] []) _
            refine go1 (fun _ => XS.iconst X96.here hx rfl (hb hby at_105)) ?_
            show Go p.tables e below T96 (mkF m 106 #[.val (.int p1), .val (.int p2), .val (.int p1), .val (.int (1 : Int32)), .unset] [(.int (0 : Int32))]) _
            refine goR X96 (BodyLoose.notSynchronized Bd) (v := (some (.int (0 : Int32)))) (fun h => by rw [Bd.returns] at h; cases h) (Q0 Z p1 p2 h0 n0) (fun fs hr => retN X96 hx (t := .boolean) Bd.returns (by simp) (hb hby at_106) hr) (by decide) (by decide) ?_
            show Q0 Z p1 p2 h0 n0 _ T96.heap _
            rw [e96]
            exact ⟨(by rw [own_0, if_neg hc1, if_neg hc82, if_pos hc94, if_pos hc95, if_neg hc97]), N96⟩
        · skip
          refine go1 (fun _ => XS.icmpNo X0.here hx rfl (hb hby at_70) rfl (feq hc95).1) ?_
          show Go p.tables e below s₁ (mkF m 73 #[.val (.int p1), .val (.int p2), .val (.int p1), .unset, .unset] []) _
          refine go1 (fun _ => XS.iloadN X0.here hx rfl (hb hby at_73) rfl) ?_
          show Go p.tables e below s₁ (mkF m 74 #[.val (.int p1), .val (.int p2), .val (.int p1), .unset, .unset] [(.int p1)]) _
          refine go1 (fun _ => XS.sipush X0.here hx rfl (hb hby at_74)) ?_
          show Go p.tables e below s₁ (mkF m 77 #[.val (.int p1), .val (.int p2), .val (.int p1), .unset, .unset] [(.int (8232 : Int32)), (.int p1)]) _
          by_cases hc98 : p1 < (8232 : Int32)
          · skip
            refine go1 (fun _ => XS.icmpYes X0.here hx rfl (pc0 := 77) (pc' := 91) rfl (hb hby at_77) rfl (tlt hc98).1 (by decide) (by decide)) ?_
            show Go p.tables e below s₁ (mkF m 91 #[.val (.int p1), .val (.int p2), .val (.int p1), .unset, .unset] []) _
            refine go1 (fun _ => XS.iconst X0.here hx rfl (hb hby at_91)) ?_
            show Go p.tables e below s₁ (mkF m 92 #[.val (.int p1), .val (.int p2), .val (.int p1), .unset, .unset] [(.int (0 : Int32))]) _
            refine go1 (fun _ => XS.istoreN X0.here hx rfl (hb hby at_92) rfl (l' := #[.val (.int p1), .val (.int p2), .val (.int p1), .val (.int (0 : Int32)), .unset]) rfl) ?_
            show Go p.tables e below s₁ (mkF m 93 #[.val (.int p1), .val (.int p2), .val (.int p1), .val (.int (0 : Int32)), .unset] []) _
            refine go1 (fun _ => XS.iloadN X0.here hx rfl (hb hby at_93) rfl) ?_
            show Go p.tables e below s₁ (mkF m 94 #[.val (.int p1), .val (.int p2), .val (.int p1), .val (.int (0 : Int32)), .unset] [(.int p1)]) _
            obtain ⟨_, _, ⟨T99, L99, k99, n99⟩, -, X99, ⟨Lc99, hQ99, l99, y99, z99⟩, st99⟩ := Jvm.LawKit.callS X0 hx (y := (⟨"com/example/isolatrix/isolatrix/TextCursor", "isLineBreak", "(I)Z"⟩ : MethodName)) hown (mvT hZ (hw _ (List.mem_of_getElem? (i := 0) rfl))) (mvT hZ (hw _ (List.mem_of_getElem? (i := 1) rfl))) (mvT hZ (hw _ (List.mem_of_getElem? (i := 2) rfl))) (mvT hZ (hw _ (List.mem_of_getElem? (i := 3) rfl))) (by decide) (backOf (W := 0) (rm1 l Z a0 hw [] p1 h0 n0 Z0 ) hZ (hw _ (List.mem_of_getElem? (i := 3) rfl)) (hw _ (List.mem_of_getElem? (i := 2) rfl)) (by decide) (by decide)) (g := (mkF m 94 #[.val (.int p1), .val (.int p2), .val (.int p1), .val (.int (0 : Int32)), .unset] [(.int p1)])) rfl (by rw [hml]; rfl) (argsL := [(.int p1)]) (rest := []) (lenOf pd0_0 rfl) rfl (by show 2 * 0 + _ ≤ _; exact Nat.le_of_eq rfl) (hb hby at_94) (fun _ _ => ⟨rfl, e0, (by decide : 0 + 0 ≤ _), (by decide : 0 + 0 ≤ _)⟩)
            dsimp only [Pt.U, Pt.locs, Pt.cells, Pt.slots] at X99 l99 y99 z99 st99 hQ99
            subst l99 y99 z99
            obtain ⟨rfl, N99q, e99⟩ := hQ99
            have N99 := Fr.app N0 N99q
            refine go1 st99 ?_
            show Go p.tables e below T99 (mkF m 97 #[.val (.int p1), .val (.int p2), .val (.int p1), .val (.int (0 : Int32)), .unset] [(.int (own_1 p1))]) _
            refine go1 (fun _ => XS.iloadN X99.here hx rfl (hb hby at_97) rfl) ?_
            show Go p.tables e below T99 (mkF m 98 #[.val (.int p1), .val (.int p2), .val (.int p1), .val (.int (0 : Int32)), .unset] [(.int (0 : Int32)), (.int (own_1 p1))]) _
            by_cases hc100 : (own_1 p1) = (0 : Int32)
            · skip
              refine go1 (fun _ => XS.icmpNo X99.here hx rfl (hb hby at_98) rfl (teq hc100).2) ?_
              show Go p.tables e below T99 (mkF m 101 #[.val (.int p1), .val (.int p2), .val (.int p1), .val (.int (0 : Int32)), .unset] []) _
              refine go1 (fun _ => XS.iconst X99.here hx rfl (hb hby at_101)) ?_
              show Go p.tables e below T99 (mkF m 102 #[.val (.int p1), .val (.int p2), .val (.int p1), .val (.int (0 : Int32)), .unset] [(.int (1 : Int32))]) _
              refine go1 (fun _ => XS.goto X99.here hx rfl (pc0 := 102) (pc' := 106) rfl (hb hby at_102) (by decide) (by decide)) ?_
              show Go p.tables e below T99 (mkF m 106 #[.val (.int p1), .val (.int p2), .val (.int p1), .val (.int (0 : Int32)), .unset] [(.int (1 : Int32))]) _
              refine goR X99 (BodyLoose.notSynchronized Bd) (v := (some (.int (1 : Int32)))) (fun h => by rw [Bd.returns] at h; cases h) (Q0 Z p1 p2 h0 n0) (fun fs hr => retN X99 hx (t := .boolean) Bd.returns (by simp) (hb hby at_106) hr) (by decide) (by decide) ?_
              show Q0 Z p1 p2 h0 n0 _ T99.heap _
              rw [e99]
              exact ⟨(by rw [own_0, if_neg hc1, if_neg hc82, if_pos hc94, if_neg hc95, if_pos hc98, if_pos hc100]), N99⟩
            · skip
              refine go1 (fun _ => XS.icmpYes X99.here hx rfl (pc0 := 98) (pc' := 105) rfl (hb hby at_98) rfl (feq hc100).2 (by decide) (by decide)) ?_
              show Go p.tables e below T99 (mkF m 105 #[.val (.int p1), .val (.int p2), .val (.int p1), .val (.int (0 : Int32)), .unset] []) _
              refine go1 (fun _ => XS.iconst X99.here hx rfl (hb hby at_105)) ?_
              show Go p.tables e below T99 (mkF m 106 #[.val (.int p1), .val (.int p2), .val (.int p1), .val (.int (0 : Int32)), .unset] [(.int (0 : Int32))]) _
              refine goR X99 (BodyLoose.notSynchronized Bd) (v := (some (.int (0 : Int32)))) (fun h => by rw [Bd.returns] at h; cases h) (Q0 Z p1 p2 h0 n0) (fun fs hr => retN X99 hx (t := .boolean) Bd.returns (by simp) (hb hby at_106) hr) (by decide) (by decide) ?_
              show Q0 Z p1 p2 h0 n0 _ T99.heap _
              rw [e99]
              exact ⟨(by rw [own_0, if_neg hc1, if_neg hc82, if_pos hc94, if_neg hc95, if_pos hc98, if_neg hc100]), N99⟩
          · skip
            refine go1 (fun _ => XS.icmpNo X0.here hx rfl (hb hby at_77) rfl (flt hc98).1) ?_
            show Go p.tables e below s₁ (mkF m 80 #[.val (.int p1), .val (.int p2), .val (.int p1), .unset, .unset] []) _
            refine go1 (fun _ => XS.iloadN X0.here hx rfl (hb hby at_80) rfl) ?_
            show Go p.tables e below s₁ (mkF m 81 #[.val (.int p1), .val (.int p2), .val (.int p1), .unset, .unset] [(.int p1)]) _
            refine go1 (fun _ => XS.sipush X0.here hx rfl (hb hby at_81)) ?_
            show Go p.tables e below s₁ (mkF m 84 #[.val (.int p1), .val (.int p2), .val (.int p1), .unset, .unset] [(.int (8233 : Int32)), (.int p1)]) _
            by_cases hc101 : (8233 : Int32) < p1
            · skip
              refine go1 (fun _ => XS.icmpYes X0.here hx rfl (pc0 := 84) (pc' := 91) rfl (hb hby at_84) rfl (tlt hc101).2.2.1 (by decide) (by decide)) ?_
              show Go p.tables e below s₁ (mkF m 91 #[.val (.int p1), .val (.int p2), .val (.int p1), .unset, .unset] []) _
              refine go1 (fun _ => XS.iconst X0.here hx rfl (hb hby at_91)) ?_
              show Go p.tables e below s₁ (mkF m 92 #[.val (.int p1), .val (.int p2), .val (.int p1), .unset, .unset] [(.int (0 : Int32))]) _
              refine go1 (fun _ => XS.istoreN X0.here hx rfl (hb hby at_92) rfl (l' := #[.val (.int p1), .val (.int p2), .val (.int p1), .val (.int (0 : Int32)), .unset]) rfl) ?_
              show Go p.tables e below s₁ (mkF m 93 #[.val (.int p1), .val (.int p2), .val (.int p1), .val (.int (0 : Int32)), .unset] []) _
              refine go1 (fun _ => XS.iloadN X0.here hx rfl (hb hby at_93) rfl) ?_
              show Go p.tables e below s₁ (mkF m 94 #[.val (.int p1), .val (.int p2), .val (.int p1), .val (.int (0 : Int32)), .unset] [(.int p1)]) _
              obtain ⟨_, _, ⟨T102, L102, k102, n102⟩, -, X102, ⟨Lc102, hQ102, l102, y102, z102⟩, st102⟩ := Jvm.LawKit.callS X0 hx (y := (⟨"com/example/isolatrix/isolatrix/TextCursor", "isLineBreak", "(I)Z"⟩ : MethodName)) hown (mvT hZ (hw _ (List.mem_of_getElem? (i := 0) rfl))) (mvT hZ (hw _ (List.mem_of_getElem? (i := 1) rfl))) (mvT hZ (hw _ (List.mem_of_getElem? (i := 2) rfl))) (mvT hZ (hw _ (List.mem_of_getElem? (i := 3) rfl))) (by decide) (backOf (W := 0) (rm1 l Z a0 hw [] p1 h0 n0 Z0 ) hZ (hw _ (List.mem_of_getElem? (i := 3) rfl)) (hw _ (List.mem_of_getElem? (i := 2) rfl)) (by decide) (by decide)) (g := (mkF m 94 #[.val (.int p1), .val (.int p2), .val (.int p1), .val (.int (0 : Int32)), .unset] [(.int p1)])) rfl (by rw [hml]; rfl) (argsL := [(.int p1)]) (rest := []) (lenOf pd0_0 rfl) rfl (by show 2 * 0 + _ ≤ _; exact Nat.le_of_eq rfl) (hb hby at_94) (fun _ _ => ⟨rfl, e0, (by decide : 0 + 0 ≤ _), (by decide : 0 + 0 ≤ _)⟩)
              dsimp only [Pt.U, Pt.locs, Pt.cells, Pt.slots] at X102 l102 y102 z102 st102 hQ102
              subst l102 y102 z102
              obtain ⟨rfl, N102q, e102⟩ := hQ102
              have N102 := Fr.app N0 N102q
              refine go1 st102 ?_
              show Go p.tables e below T102 (mkF m 97 #[.val (.int p1), .val (.int p2), .val (.int p1), .val (.int (0 : Int32)), .unset] [(.int (own_1 p1))]) _
              refine go1 (fun _ => XS.iloadN X102.here hx rfl (hb hby at_97) rfl) ?_
              show Go p.tables e below T102 (mkF m 98 #[.val (.int p1), .val (.int p2), .val (.int p1), .val (.int (0 : Int32)), .unset] [(.int (0 : Int32)), (.int (own_1 p1))]) _
              by_cases hc103 : (own_1 p1) = (0 : Int32)
              · skip
                refine go1 (fun _ => XS.icmpNo X102.here hx rfl (hb hby at_98) rfl (teq hc103).2) ?_
                show Go p.tables e below T102 (mkF m 101 #[.val (.int p1), .val (.int p2), .val (.int p1), .val (.int (0 : Int32)), .unset] []) _
                refine go1 (fun _ => XS.iconst X102.here hx rfl (hb hby at_101)) ?_
                show Go p.tables e below T102 (mkF m 102 #[.val (.int p1), .val (.int p2), .val (.int p1), .val (.int (0 : Int32)), .unset] [(.int (1 : Int32))]) _
                refine go1 (fun _ => XS.goto X102.here hx rfl (pc0 := 102) (pc' := 106) rfl (hb hby at_102) (by decide) (by decide)) ?_
                show Go p.tables e below T102 (mkF m 106 #[.val (.int p1), .val (.int p2), .val (.int p1), .val (.int (0 : Int32)), .unset] [(.int (1 : Int32))]) _
                refine goR X102 (BodyLoose.notSynchronized Bd) (v := (some (.int (1 : Int32)))) (fun h => by rw [Bd.returns] at h; cases h) (Q0 Z p1 p2 h0 n0) (fun fs hr => retN X102 hx (t := .boolean) Bd.returns (by simp) (hb hby at_106) hr) (by decide) (by decide) ?_
                show Q0 Z p1 p2 h0 n0 _ T102.heap _
                rw [e102]
                exact ⟨(by rw [own_0, if_neg hc1, if_neg hc82, if_pos hc94, if_neg hc95, if_neg hc98, if_pos hc101, if_pos hc103]), N102⟩
              · skip
                refine go1 (fun _ => XS.icmpYes X102.here hx rfl (pc0 := 98) (pc' := 105) rfl (hb hby at_98) rfl (feq hc103).2 (by decide) (by decide)) ?_
                show Go p.tables e below T102 (mkF m 105 #[.val (.int p1), .val (.int p2), .val (.int p1), .val (.int (0 : Int32)), .unset] []) _
                refine go1 (fun _ => XS.iconst X102.here hx rfl (hb hby at_105)) ?_
                show Go p.tables e below T102 (mkF m 106 #[.val (.int p1), .val (.int p2), .val (.int p1), .val (.int (0 : Int32)), .unset] [(.int (0 : Int32))]) _
                refine goR X102 (BodyLoose.notSynchronized Bd) (v := (some (.int (0 : Int32)))) (fun h => by rw [Bd.returns] at h; cases h) (Q0 Z p1 p2 h0 n0) (fun fs hr => retN X102 hx (t := .boolean) Bd.returns (by simp) (hb hby at_106) hr) (by decide) (by decide) ?_
                show Q0 Z p1 p2 h0 n0 _ T102.heap _
                rw [e102]
                exact ⟨(by rw [own_0, if_neg hc1, if_neg hc82, if_pos hc94, if_neg hc95, if_neg hc98, if_pos hc101, if_neg hc103]), N102⟩
            · skip
              refine go1 (fun _ => XS.icmpNo X0.here hx rfl (hb hby at_84) rfl (flt hc101).2.2.1) ?_
              show Go p.tables e below s₁ (mkF m 87 #[.val (.int p1), .val (.int p2), .val (.int p1), .unset, .unset] []) _
              refine go1 (fun _ => XS.iconst X0.here hx rfl (hb hby at_87)) ?_
              show Go p.tables e below s₁ (mkF m 88 #[.val (.int p1), .val (.int p2), .val (.int p1), .unset, .unset] [(.int (1 : Int32))]) _
              refine go1 (fun _ => XS.goto X0.here hx rfl (pc0 := 88) (pc' := 92) rfl (hb hby at_88) (by decide) (by decide)) ?_
              show Go p.tables e below s₁ (mkF m 92 #[.val (.int p1), .val (.int p2), .val (.int p1), .unset, .unset] [(.int (1 : Int32))]) _
              refine go1 (fun _ => XS.istoreN X0.here hx rfl (hb hby at_92) rfl (l' := #[.val (.int p1), .val (.int p2), .val (.int p1), .val (.int (1 : Int32)), .unset]) rfl) ?_
              show Go p.tables e below s₁ (mkF m 93 #[.val (.int p1), .val (.int p2), .val (.int p1), .val (.int (1 : Int32)), .unset] []) _
              refine go1 (fun _ => XS.iloadN X0.here hx rfl (hb hby at_93) rfl) ?_
              show Go p.tables e below s₁ (mkF m 94 #[.val (.int p1), .val (.int p2), .val (.int p1), .val (.int (1 : Int32)), .unset] [(.int p1)]) _
              obtain ⟨_, _, ⟨T104, L104, k104, n104⟩, -, X104, ⟨Lc104, hQ104, l104, y104, z104⟩, st104⟩ := Jvm.LawKit.callS X0 hx (y := (⟨"com/example/isolatrix/isolatrix/TextCursor", "isLineBreak", "(I)Z"⟩ : MethodName)) hown (mvT hZ (hw _ (List.mem_of_getElem? (i := 0) rfl))) (mvT hZ (hw _ (List.mem_of_getElem? (i := 1) rfl))) (mvT hZ (hw _ (List.mem_of_getElem? (i := 2) rfl))) (mvT hZ (hw _ (List.mem_of_getElem? (i := 3) rfl))) (by decide) (backOf (W := 0) (rm1 l Z a0 hw [] p1 h0 n0 Z0 ) hZ (hw _ (List.mem_of_getElem? (i := 3) rfl)) (hw _ (List.mem_of_getElem? (i := 2) rfl)) (by decide) (by decide)) (g := (mkF m 94 #[.val (.int p1), .val (.int p2), .val (.int p1), .val (.int (1 : Int32)), .unset] [(.int p1)])) rfl (by rw [hml]; rfl) (argsL := [(.int p1)]) (rest := []) (lenOf pd0_0 rfl) rfl (by show 2 * 0 + _ ≤ _; exact Nat.le_of_eq rfl) (hb hby at_94) (fun _ _ => ⟨rfl, e0, (by decide : 0 + 0 ≤ _), (by decide : 0 + 0 ≤ _)⟩)
              dsimp only [Pt.U, Pt.locs, Pt.cells, Pt.slots] at X104 l104 y104 z104 st104 hQ104
              subst l104 y104 z104
              obtain ⟨rfl, N104q, e104⟩ := hQ104
              have N104 := Fr.app N0 N104q
              refine go1 st104 ?_
              show Go p.tables e below T104 (mkF m 97 #[.val (.int p1), .val (.int p2), .val (.int p1), .val (.int (1 : Int32)), .unset] [(.int (own_1 p1))]) _
              refine go1 (fun _ => XS.iloadN X104.here hx rfl (hb hby at_97) rfl) ?_
              show Go p.tables e below T104 (mkF m 98 #[.val (.int p1), .val (.int p2), .val (.int p1), .val (.int (1 : Int32)), .unset] [(.int (1 : Int32)), (.int (own_1 p1))]) _
              by_cases hc105 : (own_1 p1) = (1 : Int32)
              · skip
                refine go1 (fun _ => XS.icmpNo X104.here hx rfl (hb hby at_98) rfl (teq hc105).2) ?_
                show Go p.tables e below T104 (mkF m 101 #[.val (.int p1), .val (.int p2), .val (.int p1), .val (.int (1 : Int32)), .unset] []) _
                refine go1 (fun _ => XS.iconst X104.here hx rfl (hb hby at_101)) ?_
                show Go p.tables e below T104 (mkF m 102 #[.val (.int p1), .val (.int p2), .val (.int p1), .val (.int (1 : Int32)), .unset] [(.int (1 : Int32))]) _
                refine go1 (fun _ => XS.goto X104.here hx rfl (pc0 := 102) (pc' := 106) rfl (hb hby at_102) (by decide) (by decide)) ?_
                show Go p.tables e below T104 (mkF m 106 #[.val (.int p1), .val (.int p2), .val (.int p1), .val (.int (1 : Int32)), .unset] [(.int (1 : Int32))]) _
                refine goR X104 (BodyLoose.notSynchronized Bd) (v := (some (.int (1 : Int32)))) (fun h => by rw [Bd.returns] at h; cases h) (Q0 Z p1 p2 h0 n0) (fun fs hr => retN X104 hx (t := .boolean) Bd.returns (by simp) (hb hby at_106) hr) (by decide) (by decide) ?_
                show Q0 Z p1 p2 h0 n0 _ T104.heap _
                rw [e104]
                exact ⟨(by rw [own_0, if_neg hc1, if_neg hc82, if_pos hc94, if_neg hc95, if_neg hc98, if_neg hc101, if_pos hc105]), N104⟩
              · skip
                refine go1 (fun _ => XS.icmpYes X104.here hx rfl (pc0 := 98) (pc' := 105) rfl (hb hby at_98) rfl (feq hc105).2 (by decide) (by decide)) ?_
                show Go p.tables e below T104 (mkF m 105 #[.val (.int p1), .val (.int p2), .val (.int p1), .val (.int (1 : Int32)), .unset] []) _
                refine go1 (fun _ => XS.iconst X104.here hx rfl (hb hby at_105)) ?_
                show Go p.tables e below T104 (mkF m 106 #[.val (.int p1), .val (.int p2), .val (.int p1), .val (.int (1 : Int32)), .unset] [(.int (0 : Int32))]) _
                refine goR X104 (BodyLoose.notSynchronized Bd) (v := (some (.int (0 : Int32)))) (fun h => by rw [Bd.returns] at h; cases h) (Q0 Z p1 p2 h0 n0) (fun fs hr => retN X104 hx (t := .boolean) Bd.returns (by simp) (hb hby at_106) hr) (by decide) (by decide) ?_
                show Q0 Z p1 p2 h0 n0 _ T104.heap _
                rw [e104]
                exact ⟨(by rw [own_0, if_neg hc1, if_neg hc82, if_pos hc94, if_neg hc95, if_neg hc98, if_neg hc101, if_neg hc105]), N104⟩
      · skip
        refine go1 (fun _ => XS.icmpYes X0.here hx rfl (pc0 := 63) (pc' := 87) rfl (hb hby at_63) rfl (flt hc94).2.2.2 (by decide) (by decide)) ?_
        show Go p.tables e below s₁ (mkF m 87 #[.val (.int p1), .val (.int p2), .val (.int p1), .unset, .unset] []) _
        refine go1 (fun _ => XS.iconst X0.here hx rfl (hb hby at_87)) ?_
        show Go p.tables e below s₁ (mkF m 88 #[.val (.int p1), .val (.int p2), .val (.int p1), .unset, .unset] [(.int (1 : Int32))]) _
        refine go1 (fun _ => XS.goto X0.here hx rfl (pc0 := 88) (pc' := 92) rfl (hb hby at_88) (by decide) (by decide)) ?_
        show Go p.tables e below s₁ (mkF m 92 #[.val (.int p1), .val (.int p2), .val (.int p1), .unset, .unset] [(.int (1 : Int32))]) _
        refine go1 (fun _ => XS.istoreN X0.here hx rfl (hb hby at_92) rfl (l' := #[.val (.int p1), .val (.int p2), .val (.int p1), .val (.int (1 : Int32)), .unset]) rfl) ?_
        show Go p.tables e below s₁ (mkF m 93 #[.val (.int p1), .val (.int p2), .val (.int p1), .val (.int (1 : Int32)), .unset] []) _
        refine go1 (fun _ => XS.iloadN X0.here hx rfl (hb hby at_93) rfl) ?_
        show Go p.tables e below s₁ (mkF m 94 #[.val (.int p1), .val (.int p2), .val (.int p1), .val (.int (1 : Int32)), .unset] [(.int p1)]) _
        obtain ⟨_, _, ⟨T106, L106, k106, n106⟩, -, X106, ⟨Lc106, hQ106, l106, y106, z106⟩, st106⟩ := Jvm.LawKit.callS X0 hx (y := (⟨"com/example/isolatrix/isolatrix/TextCursor", "isLineBreak", "(I)Z"⟩ : MethodName)) hown (mvT hZ (hw _ (List.mem_of_getElem? (i := 0) rfl))) (mvT hZ (hw _ (List.mem_of_getElem? (i := 1) rfl))) (mvT hZ (hw _ (List.mem_of_getElem? (i := 2) rfl))) (mvT hZ (hw _ (List.mem_of_getElem? (i := 3) rfl))) (by decide) (backOf (W := 0) (rm1 l Z a0 hw [] p1 h0 n0 Z0 ) hZ (hw _ (List.mem_of_getElem? (i := 3) rfl)) (hw _ (List.mem_of_getElem? (i := 2) rfl)) (by decide) (by decide)) (g := (mkF m 94 #[.val (.int p1), .val (.int p2), .val (.int p1), .val (.int (1 : Int32)), .unset] [(.int p1)])) rfl (by rw [hml]; rfl) (argsL := [(.int p1)]) (rest := []) (lenOf pd0_0 rfl) rfl (by show 2 * 0 + _ ≤ _; exact Nat.le_of_eq rfl) (hb hby at_94) (fun _ _ => ⟨rfl, e0, (by decide : 0 + 0 ≤ _), (by decide : 0 + 0 ≤ _)⟩)
        dsimp only [Pt.U, Pt.locs, Pt.cells, Pt.slots] at X106 l106 y106 z106 st106 hQ106
        subst l106 y106 z106
        obtain ⟨rfl, N106q, e106⟩ := hQ106
        have N106 := Fr.app N0 N106q
        refine go1 st106 ?_
        show Go p.tables e below T106 (mkF m 97 #[.val (.int p1), .val (.int p2), .val (.int p1), .val (.int (1 : Int32)), .unset] [(.int (own_1 p1))]) _
        refine go1 (fun _ => XS.iloadN X106.here hx rfl (hb hby at_97) rfl) ?_
        show Go p.tables e below T106 (mkF m 98 #[.val (.int p1), .val (.int p2), .val (.int p1), .val (.int (1 : Int32)), .unset] [(.int (1 : Int32)), (.int (own_1 p1))]) _
        by_cases hc107 : (own_1 p1) = (1 : Int32)
        · skip
          refine go1 (fun _ => XS.icmpNo X106.here hx rfl (hb hby at_98) rfl (teq hc107).2) ?_
          show Go p.tables e below T106 (mkF m 101 #[.val (.int p1), .val (.int p2), .val (.int p1), .val (.int (1 : Int32)), .unset] []) _
          refine go1 (fun _ => XS.iconst X106.here hx rfl (hb hby at_101)) ?_
          show Go p.tables e below T106 (mkF m 102 #[.val (.int p1), .val (.int p2), .val (.int p1), .val (.int (1 : Int32)), .unset] [(.int (1 : Int32))]) _
          refine go1 (fun _ => XS.goto X106.here hx rfl (pc0 := 102) (pc' := 106) rfl (hb hby at_102) (by decide) (by decide)) ?_
          show Go p.tables e below T106 (mkF m 106 #[.val (.int p1), .val (.int p2), .val (.int p1), .val (.int (1 : Int32)), .unset] [(.int (1 : Int32))]) _
          refine goR X106 (BodyLoose.notSynchronized Bd) (v := (some (.int (1 : Int32)))) (fun h => by rw [Bd.returns] at h; cases h) (Q0 Z p1 p2 h0 n0) (fun fs hr => retN X106 hx (t := .boolean) Bd.returns (by simp) (hb hby at_106) hr) (by decide) (by decide) ?_
          show Q0 Z p1 p2 h0 n0 _ T106.heap _
          rw [e106]
          exact ⟨(by rw [own_0, if_neg hc1, if_neg hc82, if_neg hc94, if_pos hc107]), N106⟩
        · skip
          refine go1 (fun _ => XS.icmpYes X106.here hx rfl (pc0 := 98) (pc' := 105) rfl (hb hby at_98) rfl (feq hc107).2 (by decide) (by decide)) ?_
          show Go p.tables e below T106 (mkF m 105 #[.val (.int p1), .val (.int p2), .val (.int p1), .val (.int (1 : Int32)), .unset] []) _
          refine go1 (fun _ => XS.iconst X106.here hx rfl (hb hby at_105)) ?_
          show Go p.tables e below T106 (mkF m 106 #[.val (.int p1), .val (.int p2), .val (.int p1), .val (.int (1 : Int32)), .unset] [(.int (0 : Int32))]) _
          refine goR X106 (BodyLoose.notSynchronized Bd) (v := (some (.int (0 : Int32)))) (fun h => by rw [Bd.returns] at h; cases h) (Q0 Z p1 p2 h0 n0) (fun fs hr => retN X106 hx (t := .boolean) Bd.returns (by simp) (hb hby at_106) hr) (by decide) (by decide) ?_
          show Q0 Z p1 p2 h0 n0 _ T106.heap _
          rw [e106]
          exact ⟨(by rw [own_0, if_neg hc1, if_neg hc82, if_neg hc94, if_neg hc107]), N106⟩
theorem own_brk (c : Int32) (h1 : ¬ c = 10) (h2 : ¬ c = 11) (h3 : ¬ c = 12) (h4 : ¬ c = 13) (h5 : ¬ c = 133) (h6 : ¬ c = 8232) (h7 : ¬ c = 8233) : own_1 c = 0 := by
  rw [own_1, if_neg h1, if_neg h2, if_neg h3, if_neg h4, if_neg h5, if_neg h6, if_neg h7]
theorem own_F (c : Int32) : (
    if c < (10 : Int32) then
      if c = (133 : Int32) then
        if (own_1 c) = (1 : Int32) then
          (1 : Int32)
        else
          (0 : Int32)
      else
        if c < (8232 : Int32) then
          if (own_1 c) = (0 : Int32) then
            (1 : Int32)
          else
            (0 : Int32)
        else
          if (8233 : Int32) < c then
            if (own_1 c) = (0 : Int32) then
              (1 : Int32)
            else
              (0 : Int32)
          else
            if (own_1 c) = (1 : Int32) then
              (1 : Int32)
            else
              (0 : Int32)
    else
      if (13 : Int32) < c then
        if c = (133 : Int32) then
          if (own_1 c) = (1 : Int32) then
            (1 : Int32)
          else
            (0 : Int32)
        else
          if c < (8232 : Int32) then
            if (own_1 c) = (0 : Int32) then
              (1 : Int32)
            else
              (0 : Int32)
          else
            if (8233 : Int32) < c then
              if (own_1 c) = (0 : Int32) then
                (1 : Int32)
              else
                (0 : Int32)
            else
              if (own_1 c) = (1 : Int32) then
                (1 : Int32)
              else
                (0 : Int32)
      else
        if (own_1 c) = (1 : Int32) then
          (1 : Int32)
        else
          (0 : Int32)) = 1 := by
  by_cases h1 : c = 10
  · subst h1; decide
  by_cases h2 : c = 11
  · subst h2; decide
  by_cases h3 : c = 12
  · subst h3; decide
  by_cases h4 : c = 13
  · subst h4; decide
  by_cases h5 : c = 133
  · subst h5; decide
  by_cases h6 : c = 8232
  · subst h6; decide
  by_cases h7 : c = 8233
  · subst h7; decide
  rw [own_brk c h1 h2 h3 h4 h5 h6 h7]
  have l1 : (10 : Int32).toInt = 10 := by decide
  have l2 : (11 : Int32).toInt = 11 := by decide
  have l3 : (12 : Int32).toInt = 12 := by decide
  have l4 : (13 : Int32).toInt = 13 := by decide
  have l6 : (8232 : Int32).toInt = 8232 := by decide
  have l7 : (8233 : Int32).toInt = 8233 := by decide
  have k1 := mt Int32.toInt_inj.mp h1
  have k2 := mt Int32.toInt_inj.mp h2
  have k3 := mt Int32.toInt_inj.mp h3
  have k4 := mt Int32.toInt_inj.mp h4
  have k6 := mt Int32.toInt_inj.mp h6
  have k7 := mt Int32.toInt_inj.mp h7
  have a1 : ¬ c < 10 → 13 < c := by rw [Int32.lt_iff_toInt_lt, Int32.lt_iff_toInt_lt]; omega
  have a2 : ¬ c < 8232 → 8233 < c := by rw [Int32.lt_iff_toInt_lt, Int32.lt_iff_toInt_lt]; omega
  by_cases g1 : c < 10
  · by_cases g2 : c < 8232
    · simp [g1, g2, h5]
    · simp [g1, g2, h5, a2 g2]
  · by_cases g2 : c < 8232
    · simp [g1, g2, h5, a1 g1]
    · simp [g1, g2, h5, a1 g1, a2 g2]
theorem own_true (x sel : Int32) : own_0 x sel = 1 := by
  unfold own_0
  split
  · split
    · exact own_F _
    · split
      · exact own_F _
      · exact own_F _
  · exact own_F _
set_option maxRecDepth 65536 in
set_option maxHeartbeats 40000000 in
theorem comes_1 {Post : Tables → Env → Array Value → State → Outcome → State → Prop} (hpost : ∀ tb e args s v u, (limb_1_1.after args s (.returned v) u = true ∧ limb_1_2.after args s (.returned v) u = true ∧ True) → FrameEnd s (.returned v) u (Jvm.fieldLocs frame_1_writes args s ++ Jvm.arrayLocs frame_1_arrays args s ++ Jvm.staticLocs frame_1_statics s) 0 0 → Post tb e args s (.returned v) u) :
    ArmFor flags0 classFile x code maxLocals ret World_1 tables_1 room_1 Calls_1 rest_1 Pre_1 Post := by
  intro l hfl _ _ p e ha hc hk s m args below hf hA hF happ hP
  obtain ⟨hcalls, hrest, hpre⟩ := hP
  obtain ⟨-, -, -, hnamed, -, -, -, hat⟩ := (Spec.applies_iff hf).mp happ
  obtain ⟨hg, hn⟩ := and_e (Cond.before_iff.mp (show (Jvm.Cond.and given_1 narrow_1).before args s = true from hpre))
  obtain ⟨gc, q0⟩ := and_e hg
  obtain ⟨ga0, q1⟩ := and_e q0
  have ga1 := q1
  obtain ⟨w0, w1, rfl⟩ : ∃ w0 w1 : Value, args = #[w0, w1] := by
    have hs : args.size = 2 := by simpa [Cond.value, given_1] using gc
    obtain ⟨L⟩ := args
    match L, hs with
    | [w0, w1], _ => exact ⟨w0, w1, rfl⟩
  have hw := fun d (hd : d ∈ tables_1) => atoms_spec (ws := Jvm.Cond.code x code maxLocals ret :: tables_1) hat d (List.mem_cons_of_mem _ hd)
  have hfit : Fit s := fun {y c} hc i hi => by
    obtain ⟨ha, rfl⟩ := Array.getElem?_eq_some_iff.mp hc
    have q := List.all_eq_true.mp ((Array.all_eq_true_iff_forall_mem.mp hF) _ (Array.getElem_mem ha)) i (List.mem_range.mpr hi)
    simpa [Array.getElem?_eq_getElem hi] using q
  obtain ⟨i0, ei0⟩ := is_v ga0
  obtain rfl : w0 = (.int i0) := Option.some.inj ei0
  obtain ⟨i1, ei1⟩ := is_v ga1
  obtain rfl : w1 = (.int i1) := Option.some.inj ei1
  obtain ⟨n, o, h1, h2, h3, _, L, rfl, ⟨hv, N⟩, hq⟩ := rm0 l s _ hw tables_1 i0 i1 s.heap s.heap.size (Nat.le_refl _) (Old.start s)  p e ha hc hk s m _ below hf ((Spec.applies_iff_loose hf).mp happ).1 ⟨rfl, State.Warmed39.refl s, rfl⟩ trivial
  rw [own_true] at hv
  subst hv
  refine ⟨n, _, h1, h2, h3, hpost _ _ _ _ _ _ ⟨Cond.after_iff.mpr rfl, Cond.after_iff.mpr (eq_i res_at (Term.int_eval (1)) rfl), trivial⟩ ⟨hq.1, hq.2.1, (hq.2.2.sift fun y hy => Or.inr (N y hy)).mono (by decide) (by decide)⟩⟩
theorem main_1_1 : Claimed_1_1 := comes_1 fun _ _ _ _ _ _ h hF => ⟨h.1, hF⟩
theorem main_1_2 : Claimed_1_2 := comes_1 fun _ _ _ _ _ _ h hF => ⟨h.2.1, hF⟩
end Jvm.Pilot.@@N@@
namespace Jvm.Pilot.@@N@@
open Jvm Jvm.ClassFile Sem Op Lib Jvm.Free Jvm.Stand Jvm.Pilot.@@N@@.Jvm.D
/-! MADE BY PROGRAM (witnessworld.py) out of the Statement's table words and the real class files: 9 classes; the members and pool entries that the words name. The judged class is class 1, her method 1. -/
namespace start1
open Jvm.ClassFile
def u (s : String) : CpInfo := .utf8 (stringToUtf16 s)
/-- a pool by its gaps: so many unusable entries, then the entry; so many at the end -/
def gap : Nat → List CpInfo → List CpInfo
  | 0, r => r
  | n + 1, r => .unusable :: gap n r
def poolList (es : List (Nat × CpInfo)) (last : Nat) : List CpInfo := es.foldr (fun e r => gap e.1 (e.2 :: r)) (gap last [])
def pool (es : List (Nat × CpInfo)) (last : Nat) : Array CpInfo := ⟨poolList es last⟩
def fileOf (pool : Array CpInfo) (this : Nat) (attrs : Array Attribute := #[]) (ms : Array MethodInfo := #[]) (fl : Nat := 33) (sup : Nat := 0) (ifs : Array Nat := #[]) (fds : Array FieldInfo := #[]) : ClassFile where
  minorVersion := 0
  majorVersion := 65
  constantPool := pool
  accessFlags := fl
  thisClass := this
  superClass := sup
  interfaces := ifs
  fields := fds
  methods := ms
  attributes := attrs
def plain (name : String) (sup : Option ClassId) : Class where
  name := name
  kind := .ordinary
  loader := none
  accessFlags := 33
  super := sup
  interfaces := #[]
  cf := none
  fields := #[]
  methods := #[]
  instanceTypes := #[]
  staticTypes := #[]
  resolved := #[]
  callSites := []
  init := .initialized
  statics := none
  mirror := none

def pool0 : Array CpInfo := pool [(5, u "<init>"), (0, u "()V"), (1, .class_ 10), (1, u "java/lang/Object")] 113

def k0m0 : Method := { name := "<init>", desc := "()V", sig := { parameters := [], returnType := none }, accessFlags := 1, code := none }
/-- java/lang/Object -/
def k0 : Class := { plain "java/lang/Object" none with
  accessFlags := 33
  interfaces := #[]
  cf := some (fileOf pool0 8 #[] #[{ accessFlags := 1, nameIndex := 5, descriptorIndex := 6, attributes := #[] }] 33 0 #[] #[])
  fields := #[]
  methods := #[k0m0]
  instanceTypes := #[]
  staticTypes := #[]
  resolved := Array.replicate 124 none
  statics := none }

def pool1 : Array CpInfo := pool [(2, .class_ 4), (1, u "java/lang/Object"), (0, u "<init>"), (0, u "()V"), (0, .methodref 8 9), (0, .class_ 10), (0, .nameAndType 11 12), (0, u "com/example/isolatrix/isolatrix/TextCursor"), (0, u "isLineBreak"), (0, u "(I)Z"), (0, .class_ 14), (0, u "com/example/isolatrix/isolatrix/TextCursorIsLineBreakPinLaw"), (2, u "law"), (0, u "(II)Z")] 3

def k1m0 : Method := { name := "<init>", desc := "()V", sig := { parameters := [], returnType := none }, accessFlags := 2, code := none }
def k1c1 : Code := { maxStack := 3, maxLocals := 5, code := code, exceptionTable := #[], attributes := #[] }
def k1m1 : Method := { name := "law", desc := "(II)Z", sig := { parameters := [.int, .int], returnType := some .boolean }, accessFlags := 9, code := some k1c1 }
/-- com/example/isolatrix/isolatrix/TextCursorIsLineBreakPinLaw -/
def k1 : Class := { plain "com/example/isolatrix/isolatrix/TextCursorIsLineBreakPinLaw" (some 0) with
  accessFlags := 49
  interfaces := #[]
  cf := some (fileOf pool1 13 #[] #[{ accessFlags := 2, nameIndex := 5, descriptorIndex := 6, attributes := #[] }, { accessFlags := 9, nameIndex := 17, descriptorIndex := 18, attributes := #[] }] 49 2 #[] #[])
  fields := #[]
  methods := #[k1m0, k1m1]
  instanceTypes := #[]
  staticTypes := #[]
  resolved := Array.replicate 22 none
  statics := none }

def pool2 : Array CpInfo := pool [(2, .class_ 4), (1, u "java/lang/Object"), (4, .class_ 11), (1, u "com/example/isolatrix/isolatrix/TextCursor"), (0, u "buffer"), (0, u "[C"), (2, u "line"), (0, u "J"), (2, u "text"), (0, u "Ljava/io/Reader;"), (2, u "column"), (2, u "position"), (0, u "I"), (2, u "limit"), (8, u "textEnded"), (0, u "Z"), (18, u "isLineBreak"), (0, u "(I)Z")] 44

def k2c0 : Code := { maxStack := 2, maxLocals := 1, code := prog_46_method_9_code, exceptionTable := #[], attributes := #[] }
def k2m0 : Method := { name := "isLineBreak", desc := "(I)Z", sig := { parameters := [.int], returnType := some .boolean }, accessFlags := 8, code := some k2c0 }
/-- com/example/isolatrix/isolatrix/TextCursor -/
def k2 : Class := { plain "com/example/isolatrix/isolatrix/TextCursor" (some 0) with
  accessFlags := 48
  interfaces := #[]
  cf := some (fileOf pool2 9 #[] #[{ accessFlags := 8, nameIndex := 60, descriptorIndex := 61, attributes := #[] }] 48 2 #[] #[{ accessFlags := 18, nameIndex := 20, descriptorIndex := 21, attributes := #[] }, { accessFlags := 18, nameIndex := 12, descriptorIndex := 13, attributes := #[] }, { accessFlags := 2, nameIndex := 27, descriptorIndex := 28, attributes := #[] }, { accessFlags := 2, nameIndex := 31, descriptorIndex := 28, attributes := #[] }, { accessFlags := 2, nameIndex := 40, descriptorIndex := 41, attributes := #[] }, { accessFlags := 2, nameIndex := 16, descriptorIndex := 17, attributes := #[] }, { accessFlags := 2, nameIndex := 24, descriptorIndex := 17, attributes := #[] }])
  fields := #[{ name := "text", type := (.object "java/io/Reader"), accessFlags := 18, slot := 0, constantValue := 0 }, { name := "buffer", type := (.array .char), accessFlags := 18, slot := 1, constantValue := 0 }, { name := "position", type := .int, accessFlags := 2, slot := 2, constantValue := 0 }, { name := "limit", type := .int, accessFlags := 2, slot := 3, constantValue := 0 }, { name := "textEnded", type := .boolean, accessFlags := 2, slot := 4, constantValue := 0 }, { name := "line", type := .long, accessFlags := 2, slot := 5, constantValue := 0 }, { name := "column", type := .long, accessFlags := 2, slot := 6, constantValue := 0 }]
  methods := #[k2m0]
  instanceTypes := #[(.object "java/io/Reader"), (.array .char), .int, .int, .boolean, .long, .long]
  staticTypes := #[]
  resolved := Array.replicate 106 none
  statics := none }

def pool3 : Array CpInfo := pool [(1, u "java/lang/Cloneable"), (0, .class_ 1), (0, u "java/lang/Object"), (0, .class_ 3)] 3

/-- java/lang/Cloneable -/
def k3 : Class := { plain "java/lang/Cloneable" (some 0) with
  accessFlags := 1537
  interfaces := #[]
  cf := some (fileOf pool3 2 #[] #[] 1537 4 #[] #[])
  fields := #[]
  methods := #[]
  instanceTypes := #[]
  staticTypes := #[]
  resolved := Array.replicate 8 none
  statics := none }

def pool4 : Array CpInfo := pool [(1, u "java/io/Serializable"), (0, .class_ 1), (0, u "java/lang/Object"), (0, .class_ 3)] 3

/-- java/io/Serializable -/
def k4 : Class := { plain "java/io/Serializable" (some 0) with
  accessFlags := 1537
  interfaces := #[]
  cf := some (fileOf pool4 2 #[] #[] 1537 4 #[] #[])
  fields := #[]
  methods := #[]
  instanceTypes := #[]
  staticTypes := #[]
  resolved := Array.replicate 8 none
  statics := none }

/-- the primitive byte -/
def k5 : Class := { plain "byte" none with kind := .primitive 'B', accessFlags := 0x411 }
/-- [B -/
def k6 : Class := { plain "[B" (some 0) with kind := .array 5 .byte, interfaces := #[3, 4], accessFlags := 1041 }

/-- the primitive int -/
def k7 : Class := { plain "int" none with kind := .primitive 'I', accessFlags := 0x411 }
/-- [I -/
def k8 : Class := { plain "[I" (some 0) with kind := .array 7 .int, interfaces := #[3, 4], accessFlags := 1041 }

def heap : Heap := #[]
def classes : Array Class := #[k0, k1, k2, k3, k4, k5, k6, k7, k8]
def interned : List (Array UInt16 × Addr) := []
def slotsUsed : Nat := 0
def theMethod : MethodId := ⟨1, 1⟩
def args0 : Array Value := #[.int 5, .int 2]
def aboutOver (below : List Frame) : State where
  vm := { classes := classes, interned := interned.toArray }
  heap := heap
  slotsUsed := slotsUsed
  threads := #[{ frames := .invoking theMethod args0 :: below }]
def below0 : List Frame := [.native { method := ⟨0, 0⟩, args := #[] }]
def about1 : State := aboutOver below0
def p0 : Program := .bare "" "" ""
def e0 : Env := launch0.env 0 0 0
theorem w_frames : about1.frames = Frame.invoking theMethod args0 :: below0 := rfl
set_option maxRecDepth 65536 in
theorem w_args : argsFit about1.vm theMethod args0 = true := by decide +kernel
set_option maxRecDepth 65536 in
theorem w_heap : heapFits about1 = true := by decide +kernel
set_option maxRecDepth 65536 in
theorem w_runnable : about1.curStatus? = some .runnable := by decide +kernel
set_option maxRecDepth 65536 in
theorem w_alone : about1.alone = true := by decide +kernel
set_option maxRecDepth 65536 in
theorem w_named : about1.methodNamed? x = some theMethod := by decide +kernel
set_option maxRecDepth 65536 in
theorem w_hears : about1.hears theMethod below0 = true := by decide +kernel
set_option maxRecDepth 65536 in
theorem w_ripe : about1.ripe theMethod args0 below0 = true := by decide +kernel
theorem w_running : about1.status = .running := rfl
set_option maxRecDepth 65536 in
theorem w_room : about1.hasRoom e0.platform room_1 = true :=
  launch0.hasRoom_least _ room_1 (by decide +kernel) (by decide +kernel) (by decide +kernel) (by decide +kernel) (by decide +kernel) (by decide +kernel)
theorem allAtoms_all (ts : List Jvm.Cond) (a : Array Jvm.Value) (st : Jvm.State) : (allAtoms ts).before a st = ts.all (fun c => c.before a st) := by
  induction ts with
  | nil => rfl
  | cons c t ih =>
    show (Jvm.Cond.and c (allAtoms t)).before a st = _
    rw [Jvm.Cond.before_and, ih, List.all_cons]
def words1 : List Jvm.Cond := Jvm.Cond.code x code maxLocals ret :: tables_1
/-- a 'code' word, met by the world's own term for the bytes: nothing is compared byte by byte -/
theorem code_word {y : MethodName} {bytes : ByteArray} {mx : Nat} {rt : Option FieldType} {a : Array Value} {s : State} {m : MethodId} {meth : Method} {c : Code} (h1 : s.methodNamed? y = some m) (h2 : s.vm.method? m = some meth) (h3 : meth.code = some c) (h4 : c.code = bytes)
    (h5 : (c.maxLocals == mx && c.exceptionTable.isEmpty && decide (c.maxStack ≤ mostOperands) && decide (meth.sig.returnType = rt) && !meth.locks && decide (parseMethodDescriptor y.desc = some meth.sig)) = true) : (Jvm.Cond.code y bytes mx rt).before a s = true := by
  simp only [Bool.and_eq_true, beq_iff_eq, Bool.not_eq_true', decide_eq_true_eq] at h5
  obtain ⟨⟨⟨⟨⟨g1, g2⟩, g3⟩, g4⟩, g5⟩, g6⟩ := h5
  simp [Cond.before, Cond.holds, Cond.value, h1, h2, h3, h4, g1, g2, g3, g4, g5, g6]
def isCode : Jvm.Cond → Bool
  | .code _ _ _ _ => true
  | _ => false
theorem all_split {L : List Jvm.Cond} {P : Jvm.Cond → Bool} (h1 : L.all (fun c => isCode c || P c) = true) (h2 : ∀ c ∈ L.filter isCode, P c = true) : L.all P = true := by
  refine List.all_eq_true.mpr fun c hc => ?_
  have h := List.all_eq_true.mp h1 c hc
  rcases Bool.eq_false_or_eq_true (isCode c) with hi | hi
  · exact h2 c (List.mem_filter.mpr ⟨hc, hi⟩)
  · simpa [hi] using h
set_option maxRecDepth 65536 in
theorem w_c0 : (Jvm.Cond.code x code maxLocals ret).before args0 about1 = true := code_word (m := ⟨1, 1⟩) (meth := k1m1) (c := k1c1) (by decide +kernel) rfl rfl rfl (by decide +kernel)
set_option maxRecDepth 65536 in
theorem w_c1 : (Jvm.Cond.code ({ cls := "com/example/isolatrix/isolatrix/TextCursor", name := "isLineBreak", desc := "(I)Z" } : Jvm.MethodName) prog_46_method_9_code (1 : Nat) (Option.some Jvm.ClassFile.FieldType.boolean)).before args0 about1 = true := code_word (m := ⟨2, 0⟩) (meth := k2m0) (c := k2c0) (by decide +kernel) rfl rfl rfl (by decide +kernel)
def codes1 : List Jvm.Cond := [Jvm.Cond.code x code maxLocals ret, Jvm.Cond.code ({ cls := "com/example/isolatrix/isolatrix/TextCursor", name := "isLineBreak", desc := "(I)Z" } : Jvm.MethodName) prog_46_method_9_code (1 : Nat) (Option.some Jvm.ClassFile.FieldType.boolean)]
set_option maxRecDepth 65536 in
theorem codes_eq : words1.filter isCode = codes1 := rfl
theorem w_codes : ∀ c ∈ words1.filter isCode, c.before args0 about1 = true := by
  rw [codes_eq]
  intro c hc
  simp only [codes1, List.mem_cons, List.not_mem_nil, or_false] at hc
  rcases hc with rfl | rfl
  · exact w_c0
  · exact w_c1
set_option maxRecDepth 65536 in
theorem w_t1 : words1.all (fun c => isCode c || c.before args0 about1) = true := by decide +kernel
theorem w_tables : (allAtoms (Jvm.Cond.code x code maxLocals ret :: tables_1)).before args0 about1 = true := by
  rw [allAtoms_all]
  show words1.all (fun c => c.before args0 about1) = true
  refine all_split ?_ w_codes
  rw [w_t1]
set_option maxRecDepth 65536 in
theorem w_case : (Jvm.Cond.and given_1 narrow_1).before args0 about1 = true := by decide +kernel
theorem w_applies : (headSpec (Jvm.Cond.code x code maxLocals ret :: tables_1) room_1).applies x e0.platform about1 = true :=
  (Spec.applies_iff w_frames).mpr ⟨w_running, w_runnable, w_alone, w_named, w_hears, w_ripe, w_room, w_tables⟩
theorem atStart : AtStart classFile x code maxLocals ret World_1 tables_1 room_1 Calls_1 rest_1 Pre_1 launch0 p0 e0 about1 theMethod args0 below0 :=
  ⟨lists_1, trivial, launch0.admits_env _ _ _, launch0.least_env, fairChoices_fair.cas, fairChoices_fair.clock, w_frames, w_args, w_heap, w_applies, trivial, trivial, w_case⟩
end start1
theorem witness_1 : WitnessClaimed_1 := ⟨start1.p0, start1.e0, start1.about1, start1.theMethod, start1.args0, start1.below0, start1.atStart⟩
end Jvm.Pilot.@@N@@
