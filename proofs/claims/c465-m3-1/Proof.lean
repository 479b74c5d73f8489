import JvmDerived
import JvmDerived.Pilot.@@N@@Statement
import JvmDerived.Pilot.@@N@@Code
set_option linter.unusedVariables false
set_option linter.unusedSimpArgs false
namespace Jvm.RoadKit
open Sem ClassFile Op Lib Jvm.Stand Jvm.Free Jvm.LawKit
section New
variable {p : Program} {l : Launch} {e : Env} {R : Room} {s : State} {m : MethodId} {args : Array Value} {below : List Frame} {meth : Method} {c : Code} {T : State} {locs : List Loc} {cells slots : Nat}
theorem retI (X : Stand p l e R s m args below meth c T locs cells slots) (hx : p.tables.exec = Jvm.exec) {pc : Nat} {Ls : Array Slot} {z : Int32} {rest : List Value} (hret : meth.sig.returnType = some .int) (hd : decode c.code pc = .ok (.ireturn, 1)) {fs : List Frame}
    (hl : ∀ (f : JFrame) (acts : List Action), f.method = m → f.locked = none → f.entered = [] → (doReturn e (T.setTop f) acts (some (.int z))).1 = T.setFrames fs) : Steps p.tables e below (T.setTop (mkF m pc Ls (.int z :: rest))) (T.setFrames fs) := by
  have hm' : T.vm.method? m = some meth := X.method'
  have hn : narrow .int (.int z) = .int z := rfl
  show Steps p.tables e below (T.setTop { method := m, pc := pc, locals := Ls, stack := _ :: rest, locked := none }) _
  jvm_step X.here [X.here.top, hx, hd, hm', hret, hn]
  first | (intro acts; rw [hl _ acts rfl rfl rfl]) | rw [hl _ _ rfl rfl rfl]
  exact Steps.refl _
/-- the run goes on from here to an end of which P holds -/
def Go (tb : Tables) (e : Env) (below : List Frame) (T : State) (g : JFrame) (P : State → Prop) : Prop := ∃ U, Steps tb e below (T.setTop g) U ∧ P U
theorem go1 {tb : Tables} {T' : State} {g g' : JFrame} {P : State → Prop} (k : ∀ t, Steps tb e below (T'.setTop g') t → Steps tb e below (T.setTop g) t) (h : Go tb e below T' g' P) : Go tb e below T g P := by
  obtain ⟨U, h1, h2⟩ := h; exact ⟨U, k U h1, h2⟩
theorem goT {tb : Tables} {T' : State} {g g' : JFrame} {P : State → Prop} (k : Steps tb e below (T.setTop g) (T'.setTop g')) (h : Go tb e below T' g' P) : Go tb e below T g P := by
  obtain ⟨U, h1, h2⟩ := h; exact ⟨U, k.trans h1, h2⟩
theorem stp {tb : Tables} {T' t : State} {g g' : JFrame} (k : ∀ t, Steps tb e below (T'.setTop g') t → Steps tb e below (T.setTop g) t) (h : Steps tb e below (T'.setTop g') t) : Steps tb e below (T.setTop g) t := k t h
theorem goB {tb : Tables} {ml : Nat} {g : JFrame} {Qp : Outcome → State → Prop} (q : entryFrame m args ml = g) (h : Go tb e below T g (fun U => ∃ o, U.status = .running ∧ Ended U below o ∧ Qp o U)) :
    ∃ s₂ o, Steps tb e below (T.setTop (entryFrame m args ml)) s₂ ∧ s₂.status = .running ∧ Ended s₂ below o ∧ Qp o s₂ := by
  obtain ⟨U, h1, o, h2, h3, h4⟩ := h; exact ⟨U, o, q ▸ h1, h2, h3, h4⟩
theorem goR (X : Stand p l e R s m args below meth c T locs cells slots) (hlocks : meth.locks = false) {v : Option Value} (hv : meth.sig.returnType = none → v = none) {g : JFrame} {kc ks : Nat} (Q : Option Value → Heap → List Loc → Prop)
    (k : ∀ fs, (∀ (f : JFrame) (acts : List Action), f.method = m → f.locked = none → f.entered = [] → (doReturn e (T.setTop f) acts v).1 = T.setFrames fs) → Steps p.tables e below (T.setTop g) (T.setFrames fs)) (hc : cells ≤ kc) (hs : slots ≤ ks) (hq : Q v T.heap locs) :
    Go p.tables e below T g (fun U => ∃ o, U.status = .running ∧ Ended U below o ∧ ∃ v L, o = .returned v ∧ Q v U.heap L ∧ FrameEnd s o U L kc ks) := by
  obtain ⟨fs, hr, hrun, hended, hW, hsame⟩ := X.leave hv hlocks
  exact ⟨_, k fs hr, _, hrun, hended, _, _, rfl, hq, ⟨_, rfl⟩, hW, hsame.mono hc hs⟩
theorem fitsG {C : String} {u : Value} (h : u.isRef = true) : fits (.object C) u = true := by rcases ref_cases h with rfl | ⟨a, rfl⟩ <;> rfl
theorem selPriv {Z : State} {a0 : Array Value} {y : MethodName} {n : Nat} (hZ : Z.Warmed39 s.vm) (wi : (Cond.instantiable y.cls n).before a0 Z = true) (wp : (Cond.privateMethod y).before a0 Z = true) (wm : (Cond.instanceMethod y).before a0 Z = true) (hy : y.cls ≠ "java/lang/invoke/MethodHandle" ∧ y.cls ≠ "java/lang/invoke/VarHandle") : (Cond.selects y.cls y y).before args s = true := by
  obtain ⟨c, k, h1, h2, -, h4, -⟩ := Cond.instantiable_spec (show (Cond.instantiable y.cls n).before args s = true from mv hZ wi)
  have h5 : k.isInterface = false := by
    cases hq : k.isInterface
    · rfl
    · rw [hq] at h4; simp at h4
  exact selects_self_of_private h1 h2 h5 (Cond.privateMethod_at (mvP hZ wp (args := #[]))) (mv hZ wm) hy
theorem nsRoot {Z : State} {a0 : Array Value} {O K : String} {n : Nat} (w : (Cond.noSuperclass O).before a0 Z = true) (wk : (Cond.instantiable K n).before a0 Z = true) (hn : O ≠ K) : NS Z O K := by
  obtain ⟨c, k, h1, h2, h3, -⟩ := Cond.noSuperclass_spec w
  obtain ⟨t, kt, g1, -⟩ := Cond.instantiable_spec wk
  have ne := ids_ne h1 g1 hn
  exact ⟨c, t, h1, g1, fun fuel => by cases fuel <;> simp [Vm.isSubclassAux, ne, h2, h3]⟩
theorem nsNo {Z : State} {a0 : Array Value} {C S K : String} {n : Nat} (w : (Cond.superclass C S).before a0 Z = true) (wk : (Cond.instantiable K n).before a0 Z = true) (N : NS Z C K) (hn : C ≠ K) : ∃ c t, Z.vm.findClass C = some c ∧ Z.vm.findClass K = some t ∧ Z.vm.assignable c t = false := by
  obtain ⟨c, t, h0, g0, n3⟩ := N
  obtain ⟨pp, k, kp, -, h2, -, -, h5, -, -⟩ := Cond.superclass_spec h0 w
  obtain ⟨t', kt, g1, g2, g3, g4, -⟩ := Cond.instantiable_spec wk
  cases g0.symm.trans g1
  have ne := ids_ne h0 g0 hn
  have g5 : kt.isInterface = false := by
    cases hq : kt.isInterface
    · rfl
    · rw [hq] at g4; simp at g4
  refine ⟨c, t, h0, g0, ?_⟩
  show Z.vm.assignableAux (255 + 1) c t = false
  simp [Vm.assignableAux, ne, h2, g2, h5, g3, g5, Vm.isSubclass, n3]
theorem lenS {Z : State} {t : Term} {a : Addr} {cl : Cell} {n : Int32} {ty : FieldType} (ev : t.eval args Z none [] Z = some (.ref a)) (A : Arr Z Z.heap a cl ty) (h : (Term.length t).eval args Z none [] Z = some (.int n)) :
    cl.slots.size < 2 ^ 31 ∧ cl.slots.size.toInt32 = n ∧ cl.slots.size = n.toNatClampNeg ∧ ¬ n < 0 := by
  have ha := A.fin (Vm.Alike.refl _)
  by_cases q : cl.slots.size < 2 ^ 31
  · have e := len_f ev ha q
    rw [h] at e
    have e2 : n = cl.slots.size.toInt32 := by injection e with e; injection e
    have e3 := len_toInt q
    refine ⟨q, e2.symm, ?_, ?_⟩
    · rw [e2]; simp only [Int32.toNatClampNeg, e3]; rfl
    · rw [e2, Int32.lt_iff_toInt_lt, e3]; show ¬ (cl.slots.size : Int) < 0; omega
  · exfalso
    have q' : ¬ cl.slots.size < 2147483648 := q
    simp [Term.eval, ev, ha, q'] at h
end New
end Jvm.RoadKit
namespace Jvm.Pilot.@@N@@
open Jvm Jvm.ClassFile Sem Op Lib Jvm.Free Jvm.Stand Jvm.LawKit Jvm.RoadKit Bundle Jvm.Pilot.@@N@@.Jvm.D
theorem d1_0 : decode prog_56_method_17_code 0 = .ok (.lload_n 0, 1) := by decide +kernel
theorem d1_1 : decode prog_56_method_17_code 1 = .ok (.lconst 0, 1) := by decide +kernel
theorem d1_2 : decode prog_56_method_17_code 2 = .ok (.lcmp, 1) := by decide +kernel
theorem d1_3 : decode prog_56_method_17_code 3 = .ok (.ifCond .le 15, 3) := by decide +kernel
theorem d1_6 : decode prog_56_method_17_code 6 = .ok (.lload_n 0, 1) := by decide +kernel
theorem d1_7 : decode prog_56_method_17_code 7 = .ok (.ldc2_w 250, 3) := by decide +kernel
theorem d1_10 : decode prog_56_method_17_code 10 = .ok (.lcmp, 1) := by decide +kernel
theorem d1_11 : decode prog_56_method_17_code 11 = .ok (.ifCond .gt 7, 3) := by decide +kernel
theorem d1_14 : decode prog_56_method_17_code 14 = .ok (.iconst 1, 1) := by decide +kernel
theorem d1_15 : decode prog_56_method_17_code 15 = .ok (.goto 4, 3) := by decide +kernel
theorem d1_18 : decode prog_56_method_17_code 18 = .ok (.iconst 0, 1) := by decide +kernel
theorem d1_19 : decode prog_56_method_17_code 19 = .ok (.ireturn, 1) := by decide +kernel
theorem pn_1 : plainName "com/example/stubwright/stubwright/mapping/JavaTypes" = true := by first | (simp [plainName, overriddenIn]; done) | decide +kernel
theorem ef_1 (m : MethodId) (p1 : Int64) : entryFrame m #[(.long p1)] 2 = mkF m 0 #[.val (.long p1), .second] [] := by first | (simp [entryFrame, mkF, argsToLocals, Value.category]; done) | rfl
def own_1 (p1 : Int64) : Int32 :=
  if (0 : Int64) < p1 then
    if (2147483647 : Int64) < p1 then
      (0 : Int32)
    else
      (1 : Int32)
  else
    (0 : Int32)
def Q1 (Z : State) (p1 : Int64) (h0 : Heap) (n0 : Nat) (v : Option Value) (h : Heap) (L : List Loc) : Prop := v = some (.int (own_1 p1)) ∧ Fr n0 L ∧ h = h0
set_option maxRecDepth 65536 in
set_option maxHeartbeats 40000000 in
theorem rm1 (l : Launch) (Z : State) (a0 : Array Value) (hw : ∀ d ∈ tables_1, d.before a0 Z = true) (ws : List Jvm.Cond) (p1 : Int64) (h0 : Heap) (n0 : Nat) (Z0 : n0 ≤ h0.size) :
    MetFree l (⟨"com/example/stubwright/stubwright/mapping/JavaTypes", "isChecked", "(J)Z"⟩ : MethodName) (head1 (Jvm.Cond.code (⟨"com/example/stubwright/stubwright/mapping/JavaTypes", "isChecked", "(J)Z"⟩ : MethodName) prog_56_method_17_code 2 (some .boolean) :: ws) ({ frames := 0, cells := 0, slots := 0, locals := 0 } : Room)) (fun a U => a = #[(.long p1)] ∧ Z.Warmed39 U.vm ∧ U.heap = h0) (fun _ _ _ _ _ => True) (fun _ U o U' => ∃ v L, o = .returned v ∧ Q1 Z p1 h0 n0 v U'.heap L ∧ FrameEnd U o U' L ({ frames := 0, cells := 0, slots := 0, locals := 0 } : Room).cells ({ frames := 0, cells := 0, slots := 0, locals := 0 } : Room).slots) := by
  refine MetFree.of_bodySF (plainFor_of_name pn_1) hisR ?_
  intro p e s m args below meth c s₁ Bd hml0 hP hK
  obtain ⟨rfl, hZ, hh⟩ := hP
  have hx := Bd.exec
  have hby := Bd.bytes
  have hml : c.maxLocals = 2 := hml0
  have hown : s.vm.findClass "com/example/stubwright/stubwright/mapping/JavaTypes" = some m.cls := findClass_of_methodNamed Bd.named
  have hnm := (name_of_methodNamed Bd.named Bd.method).1
  have X0 : Stand p l e ({ frames := 0, cells := 0, slots := 0, locals := 0 } : Room) s m #[(.long p1)] below meth c s₁ [] 0 0 := Stand.of_body Bd
  have e0 : s₁.heap = h0 := by rw [← hh, Bd.state]; rfl
  have N0 := Fr.nil n0
  refine goB (ef_1 m p1) ?_
  show Go p.tables e below s₁ (mkF m 0 #[.val (.long p1), .second] []) _
  refine go1 (fun _ => XS.lloadN X0.here hx rfl (hb hby d1_0) rfl) ?_
  show Go p.tables e below s₁ (mkF m 1 #[.val (.long p1), .second] [(.long p1)]) _
  refine go1 (fun _ => XS.lconst X0.here hx rfl (hb hby d1_1)) ?_
  show Go p.tables e below s₁ (mkF m 2 #[.val (.long p1), .second] [(.long (0 : Int64)), (.long p1)]) _
  refine go1 (fun _ => XS.lcmp X0.here hx rfl (hb hby d1_2) rfl) ?_
  show Go p.tables e below s₁ (mkF m 3 #[.val (.long p1), .second] [(.int (lcmpW p1 (0 : Int64)))]) _
  by_cases hc1 : (0 : Int64) < p1
  · skip
    refine go1 (fun _ => XS.ifNo X0.here hx rfl (hb hby d1_3) rfl ((if0 _ _).trans (tlt ((lw_gt _ _).mpr hc1)).2.2.2)) ?_
    show Go p.tables e below s₁ (mkF m 6 #[.val (.long p1), .second] []) _
    refine go1 (fun _ => XS.lloadN X0.here hx rfl (hb hby d1_6) rfl) ?_
    show Go p.tables e below s₁ (mkF m 7 #[.val (.long p1), .second] [(.long p1)]) _
    refine go1 (X0.ldc2Long hx hown (mvT hZ (hw _ (List.mem_of_getElem? (i := 5) rfl))) (g := (mkF m 7 #[.val (.long p1), .second] [(.long p1)])) rfl (hb hby d1_7)) ?_
    show Go p.tables e below s₁ (mkF m 10 #[.val (.long p1), .second] [(.long (2147483647 : Int64)), (.long p1)]) _
    refine go1 (fun _ => XS.lcmp X0.here hx rfl (hb hby d1_10) rfl) ?_
    show Go p.tables e below s₁ (mkF m 11 #[.val (.long p1), .second] [(.int (lcmpW p1 (2147483647 : Int64)))]) _
    by_cases hc2 : (2147483647 : Int64) < p1
    · skip
      refine go1 (fun _ => XS.ifYes X0.here hx rfl (pc0 := 11) (pc' := 18) rfl (hb hby d1_11) rfl ((if0 _ _).trans (tlt ((lw_gt _ _).mpr hc2)).2.2.1) (by decide) (by decide)) ?_
      show Go p.tables e below s₁ (mkF m 18 #[.val (.long p1), .second] []) _
      refine go1 (fun _ => XS.iconst X0.here hx rfl (hb hby d1_18)) ?_
      show Go p.tables e below s₁ (mkF m 19 #[.val (.long p1), .second] [(.int (0 : Int32))]) _
      refine goR X0 (BodyLoose.notSynchronized Bd) (v := (some (.int (0 : Int32)))) (fun h => by rw [Bd.returns] at h; cases h) (Q1 Z p1 h0 n0) (fun fs hr => retN X0 hx (t := .boolean) Bd.returns (by simp) (hb hby d1_19) hr) (by decide) (by decide) ?_
      show Q1 Z p1 h0 n0 _ s₁.heap _
      rw [e0]
      exact ⟨(by rw [own_1, if_pos hc1, if_pos hc2]), N0, rfl⟩
    · skip
      refine go1 (fun _ => XS.ifNo X0.here hx rfl (hb hby d1_11) rfl ((if0 _ _).trans (flt (mt (lw_gt _ _).mp hc2)).2.2.1)) ?_
      show Go p.tables e below s₁ (mkF m 14 #[.val (.long p1), .second] []) _
      refine go1 (fun _ => XS.iconst X0.here hx rfl (hb hby d1_14)) ?_
      show Go p.tables e below s₁ (mkF m 15 #[.val (.long p1), .second] [(.int (1 : Int32))]) _
      refine go1 (fun _ => XS.goto X0.here hx rfl (pc0 := 15) (pc' := 19) rfl (hb hby d1_15) (by decide) (by decide)) ?_
      show Go p.tables e below s₁ (mkF m 19 #[.val (.long p1), .second] [(.int (1 : Int32))]) _
      refine goR X0 (BodyLoose.notSynchronized Bd) (v := (some (.int (1 : Int32)))) (fun h => by rw [Bd.returns] at h; cases h) (Q1 Z p1 h0 n0) (fun fs hr => retN X0 hx (t := .boolean) Bd.returns (by simp) (hb hby d1_19) hr) (by decide) (by decide) ?_
      show Q1 Z p1 h0 n0 _ s₁.heap _
      rw [e0]
      exact ⟨(by rw [own_1, if_pos hc1, if_neg hc2]), N0, rfl⟩
  · skip
    refine go1 (fun _ => XS.ifYes X0.here hx rfl (pc0 := 3) (pc' := 18) rfl (hb hby d1_3) rfl ((if0 _ _).trans (flt (mt (lw_gt _ _).mp hc1)).2.2.2) (by decide) (by decide)) ?_
    show Go p.tables e below s₁ (mkF m 18 #[.val (.long p1), .second] []) _
    refine go1 (fun _ => XS.iconst X0.here hx rfl (hb hby d1_18)) ?_
    show Go p.tables e below s₁ (mkF m 19 #[.val (.long p1), .second] [(.int (0 : Int32))]) _
    refine goR X0 (BodyLoose.notSynchronized Bd) (v := (some (.int (0 : Int32)))) (fun h => by rw [Bd.returns] at h; cases h) (Q1 Z p1 h0 n0) (fun fs hr => retN X0 hx (t := .boolean) Bd.returns (by simp) (hb hby d1_19) hr) (by decide) (by decide) ?_
    show Q1 Z p1 h0 n0 _ s₁.heap _
    rw [e0]
    exact ⟨(by rw [own_1, if_neg hc1]), N0, rfl⟩
theorem pn_0 : plainName "com/example/stubwright/stubwright/mapping/JavaTypesIsCheckedPinLaw" = true := by first | (simp [plainName, overriddenIn]; done) | decide +kernel
theorem pd0_0 : parseMethodDescriptor "(J)Z" = some ⟨[.long], some .boolean⟩ := by decide +kernel
theorem ef_0 (m : MethodId) (p1 : Int64) (p2 : Int32) : entryFrame m #[(.long p1), (.int p2)] maxLocals = mkF m 0 #[.val (.long p1), .second, .val (.int p2), .unset, .unset, .unset, .unset, .unset] [] := by first | (simp [entryFrame, mkF, argsToLocals, Value.category, maxLocals]; done) | rfl
def own_0 (p1 : Int64) (p2 : Int32) : Int32 :=
  if (p2 &&& (3 : Int32)) = (0 : Int32) then
    if ((p1.toInt32).toInt64) = p1 then
      if (0 : Int64) < p1 then
        if (own_1 p1) = (1 : Int32) then
          (1 : Int32)
        else
          (0 : Int32)
      else
        if (own_1 p1) = (0 : Int32) then
          (1 : Int32)
        else
          (0 : Int32)
    else
      if (0 : Int64) < p1 then
        if (own_1 p1) = (0 : Int32) then
          (1 : Int32)
        else
          (0 : Int32)
      else
        if (own_1 p1) = (0 : Int32) then
          (1 : Int32)
        else
          (0 : Int32)
  else
    if (p2 &&& (3 : Int32)) = (1 : Int32) then
      if (((((2147483647 : Int64) + (p1 &&& (3 : Int64))) - (1 : Int64)).toInt32).toInt64) = (((2147483647 : Int64) + (p1 &&& (3 : Int64))) - (1 : Int64)) then
        if (0 : Int64) < (((2147483647 : Int64) + (p1 &&& (3 : Int64))) - (1 : Int64)) then
          if (own_1 (((2147483647 : Int64) + (p1 &&& (3 : Int64))) - (1 : Int64))) = (1 : Int32) then
            (1 : Int32)
          else
            (0 : Int32)
        else
          if (own_1 (((2147483647 : Int64) + (p1 &&& (3 : Int64))) - (1 : Int64))) = (0 : Int32) then
            (1 : Int32)
          else
            (0 : Int32)
      else
        if (0 : Int64) < (((2147483647 : Int64) + (p1 &&& (3 : Int64))) - (1 : Int64)) then
          if (own_1 (((2147483647 : Int64) + (p1 &&& (3 : Int64))) - (1 : Int64))) = (0 : Int32) then
            (1 : Int32)
          else
            (0 : Int32)
        else
          if (own_1 (((2147483647 : Int64) + (p1 &&& (3 : Int64))) - (1 : Int64))) = (0 : Int32) then
            (1 : Int32)
          else
            (0 : Int32)
    else
      if (p2 &&& (3 : Int32)) = (2 : Int32) then
        if ((((p1 &&& (3 : Int64)) - (1 : Int64)).toInt32).toInt64) = ((p1 &&& (3 : Int64)) - (1 : Int64)) then
          if (0 : Int64) < ((p1 &&& (3 : Int64)) - (1 : Int64)) then
            if (own_1 ((p1 &&& (3 : Int64)) - (1 : Int64))) = (1 : Int32) then
              (1 : Int32)
            else
              (0 : Int32)
          else
            if (own_1 ((p1 &&& (3 : Int64)) - (1 : Int64))) = (0 : Int32) then
              (1 : Int32)
            else
              (0 : Int32)
        else
          if (0 : Int64) < ((p1 &&& (3 : Int64)) - (1 : Int64)) then
            if (own_1 ((p1 &&& (3 : Int64)) - (1 : Int64))) = (0 : Int32) then
              (1 : Int32)
            else
              (0 : Int32)
          else
            if (own_1 ((p1 &&& (3 : Int64)) - (1 : Int64))) = (0 : Int32) then
              (1 : Int32)
            else
              (0 : Int32)
      else
        if ((((4294967295 : Int64) - (p1 &&& (1 : Int64))).toInt32).toInt64) = ((4294967295 : Int64) - (p1 &&& (1 : Int64))) then
          if (0 : Int64) < ((4294967295 : Int64) - (p1 &&& (1 : Int64))) then
            if (own_1 ((4294967295 : Int64) - (p1 &&& (1 : Int64)))) = (1 : Int32) then
              (1 : Int32)
            else
              (0 : Int32)
          else
            if (own_1 ((4294967295 : Int64) - (p1 &&& (1 : Int64)))) = (0 : Int32) then
              (1 : Int32)
            else
              (0 : Int32)
        else
          if (0 : Int64) < ((4294967295 : Int64) - (p1 &&& (1 : Int64))) then
            if (own_1 ((4294967295 : Int64) - (p1 &&& (1 : Int64)))) = (0 : Int32) then
              (1 : Int32)
            else
              (0 : Int32)
          else
            if (own_1 ((4294967295 : Int64) - (p1 &&& (1 : Int64)))) = (0 : Int32) then
              (1 : Int32)
            else
              (0 : Int32)
def Q0 (Z : State) (p1 : Int64) (p2 : Int32) (h0 : Heap) (n0 : Nat) (v : Option Value) (h : Heap) (L : List Loc) : Prop := v = some (.int (own_0 p1 p2)) ∧ Fr n0 L
set_option maxRecDepth 65536 in
set_option maxHeartbeats 40000000 in
theorem rm0 (l : Launch) (Z : State) (a0 : Array Value) (hw : ∀ d ∈ tables_1, d.before a0 Z = true) (ws : List Jvm.Cond) (p1 : Int64) (p2 : Int32) (h0 : Heap) (n0 : Nat) (Z0 : n0 ≤ h0.size) (O0 : Old Z n0 h0) :
    MetFree l x (head1 (Jvm.Cond.code x code maxLocals ret :: ws) room_1) (fun a U => a = #[(.long p1), (.int p2)] ∧ Z.Warmed39 U.vm ∧ U.heap = h0) (fun _ _ _ _ _ => True) (fun _ U o U' => ∃ v L, o = .returned v ∧ Q0 Z p1 p2 h0 n0 v U'.heap L ∧ FrameEnd U o U' L 0 0) := by
  refine MetFree.of_bodySF (plainFor_of_name pn_0) hisR ?_
  intro p e s m args below meth c s₁ Bd hml0 hP hK
  obtain ⟨rfl, hZ, hh⟩ := hP
  have hx := Bd.exec
  have hby := Bd.bytes
  have hml : c.maxLocals = 8 := hml0
  have hown : s.vm.findClass "com/example/stubwright/stubwright/mapping/JavaTypesIsCheckedPinLaw" = some m.cls := findClass_of_methodNamed Bd.named
  have hnm := (name_of_methodNamed Bd.named Bd.method).1
  have X0 : Stand p l e room_1 s m #[(.long p1), (.int p2)] below meth c s₁ [] 0 0 := Stand.of_body Bd
  have e0 : s₁.heap = h0 := by rw [← hh, Bd.state]; rfl
  have N0 := Fr.nil n0
  refine goB (ef_0 m p1 p2) ?_
  show Go p.tables e below s₁ (mkF m 0 #[.val (.long p1), .second, .val (.int p2), .unset, .unset, .unset, .unset, .unset] []) _
  refine go1 (fun _ => XS.iloadN X0.here hx rfl (hb hby at_0) rfl) ?_
  show Go p.tables e below s₁ (mkF m 1 #[.val (.long p1), .second, .val (.int p2), .unset, .unset, .unset, .unset, .unset] [(.int p2)]) _
  refine go1 (fun _ => XS.iconst X0.here hx rfl (hb hby at_1)) ?_
  show Go p.tables e below s₁ (mkF m 2 #[.val (.long p1), .second, .val (.int p2), .unset, .unset, .unset, .unset, .unset] [(.int (3 : Int32)), (.int p2)]) _
  refine go1 (fun _ => XS.iand X0.here hx rfl (hb hby at_2) rfl) ?_
  show Go p.tables e below s₁ (mkF m 3 #[.val (.long p1), .second, .val (.int p2), .unset, .unset, .unset, .unset, .unset] [(.int (p2 &&& (3 : Int32)))]) _
  refine go1 (fun _ => XS.istoreN X0.here hx rfl (hb hby at_3) rfl (l' := #[.val (.long p1), .second, .val (.int p2), .val (.int (p2 &&& (3 : Int32))), .unset, .unset, .unset, .unset]) rfl) ?_
  show Go p.tables e below s₁ (mkF m 4 #[.val (.long p1), .second, .val (.int p2), .val (.int (p2 &&& (3 : Int32))), .unset, .unset, .unset, .unset] []) _
  refine go1 (fun _ => XS.iloadN X0.here hx rfl (hb hby at_4) rfl) ?_
  show Go p.tables e below s₁ (mkF m 5 #[.val (.long p1), .second, .val (.int p2), .val (.int (p2 &&& (3 : Int32))), .unset, .unset, .unset, .unset] [(.int (p2 &&& (3 : Int32)))]) _
  by_cases hc1 : (p2 &&& (3 : Int32)) = (0 : Int32)
  · skip
    refine go1 (fun _ => XS.ifNo X0.here hx rfl (hb hby at_5) rfl ((if0 _ _).trans (teq hc1).2)) ?_
    show Go p.tables e below s₁ (mkF m 8 #[.val (.long p1), .second, .val (.int p2), .val (.int (p2 &&& (3 : Int32))), .unset, .unset, .unset, .unset] []) _
    refine go1 (fun _ => XS.lloadN X0.here hx rfl (hb hby at_8) rfl) ?_
    show Go p.tables e below s₁ (mkF m 9 #[.val (.long p1), .second, .val (.int p2), .val (.int (p2 &&& (3 : Int32))), .unset, .unset, .unset, .unset] [(.long p1)]) _
    refine go1 (fun _ => XS.lstore X0.here hx rfl (hb hby at_9) rfl (l' := #[.val (.long p1), .second, .val (.int p2), .val (.int (p2 &&& (3 : Int32))), .val (.long p1), .second, .unset, .unset]) rfl) ?_
    show Go p.tables e below s₁ (mkF m 11 #[.val (.long p1), .second, .val (.int p2), .val (.int (p2 &&& (3 : Int32))), .val (.long p1), .second, .unset, .unset] []) _
    refine go1 (fun _ => XS.goto X0.here hx rfl (pc0 := 11) (pc' := 61) rfl (hb hby at_11) (by decide) (by decide)) ?_
    show Go p.tables e below s₁ (mkF m 61 #[.val (.long p1), .second, .val (.int p2), .val (.int (p2 &&& (3 : Int32))), .val (.long p1), .second, .unset, .unset] []) _
    refine go1 (fun _ => XS.lload X0.here hx rfl (hb hby at_61) rfl) ?_
    show Go p.tables e below s₁ (mkF m 63 #[.val (.long p1), .second, .val (.int p2), .val (.int (p2 &&& (3 : Int32))), .val (.long p1), .second, .unset, .unset] [(.long p1)]) _
    refine go1 (fun _ => XS.l2i X0.here hx rfl (hb hby at_63) rfl) ?_
    show Go p.tables e below s₁ (mkF m 64 #[.val (.long p1), .second, .val (.int p2), .val (.int (p2 &&& (3 : Int32))), .val (.long p1), .second, .unset, .unset] [(.int (p1.toInt32))]) _
    refine go1 (fun _ => XS.i2l X0.here hx rfl (hb hby at_64) rfl) ?_
    show Go p.tables e below s₁ (mkF m 65 #[.val (.long p1), .second, .val (.int p2), .val (.int (p2 &&& (3 : Int32))), .val (.long p1), .second, .unset, .unset] [(.long ((p1.toInt32).toInt64))]) _
    refine go1 (fun _ => XS.lload X0.here hx rfl (hb hby at_65) rfl) ?_
    show Go p.tables e below s₁ (mkF m 67 #[.val (.long p1), .second, .val (.int p2), .val (.int (p2 &&& (3 : Int32))), .val (.long p1), .second, .unset, .unset] [(.long p1), (.long ((p1.toInt32).toInt64))]) _
    refine go1 (fun _ => XS.lcmp X0.here hx rfl (hb hby at_67) rfl) ?_
    show Go p.tables e below s₁ (mkF m 68 #[.val (.long p1), .second, .val (.int p2), .val (.int (p2 &&& (3 : Int32))), .val (.long p1), .second, .unset, .unset] [(.int (lcmpW ((p1.toInt32).toInt64) p1))]) _
    by_cases hc2 : ((p1.toInt32).toInt64) = p1
    · skip
      refine go1 (fun _ => XS.ifNo X0.here hx rfl (hb hby at_68) rfl ((if0 _ _).trans (teq ((lw_eq _ _).mpr hc2)).2)) ?_
      show Go p.tables e below s₁ (mkF m 71 #[.val (.long p1), .second, .val (.int p2), .val (.int (p2 &&& (3 : Int32))), .val (.long p1), .second, .unset, .unset] []) _
      refine go1 (fun _ => XS.iconst X0.here hx rfl (hb hby at_71)) ?_
      show Go p.tables e below s₁ (mkF m 72 #[.val (.long p1), .second, .val (.int p2), .val (.int (p2 &&& (3 : Int32))), .val (.long p1), .second, .unset, .unset] [(.int (1 : Int32))]) _
      refine go1 (fun _ => XS.goto X0.here hx rfl (pc0 := 72) (pc' := 76) rfl (hb hby at_72) (by decide) (by decide)) ?_
      show Go p.tables e below s₁ (mkF m 76 #[.val (.long p1), .second, .val (.int p2), .val (.int (p2 &&& (3 : Int32))), .val (.long p1), .second, .unset, .unset] [(.int (1 : Int32))]) _
      refine go1 (fun _ => XS.istore X0.here hx rfl (hb hby at_76) rfl (l' := #[.val (.long p1), .second, .val (.int p2), .val (.int (p2 &&& (3 : Int32))), .val (.long p1), .second, .val (.int (1 : Int32)), .unset]) rfl) ?_
      show Go p.tables e below s₁ (mkF m 78 #[.val (.long p1), .second, .val (.int p2), .val (.int (p2 &&& (3 : Int32))), .val (.long p1), .second, .val (.int (1 : Int32)), .unset] []) _
      refine go1 (fun _ => XS.lload X0.here hx rfl (hb hby at_78) rfl) ?_
      show Go p.tables e below s₁ (mkF m 80 #[.val (.long p1), .second, .val (.int p2), .val (.int (p2 &&& (3 : Int32))), .val (.long p1), .second, .val (.int (1 : Int32)), .unset] [(.long p1)]) _
      refine go1 (fun _ => XS.lconst X0.here hx rfl (hb hby at_80)) ?_
      show Go p.tables e below s₁ (mkF m 81 #[.val (.long p1), .second, .val (.int p2), .val (.int (p2 &&& (3 : Int32))), .val (.long p1), .second, .val (.int (1 : Int32)), .unset] [(.long (0 : Int64)), (.long p1)]) _
      refine go1 (fun _ => XS.lcmp X0.here hx rfl (hb hby at_81) rfl) ?_
      show Go p.tables e below s₁ (mkF m 82 #[.val (.long p1), .second, .val (.int p2), .val (.int (p2 &&& (3 : Int32))), .val (.long p1), .second, .val (.int (1 : Int32)), .unset] [(.int (lcmpW p1 (0 : Int64)))]) _
      by_cases hc3 : (0 : Int64) < p1
      · skip
        refine go1 (fun _ => XS.ifNo X0.here hx rfl (hb hby at_82) rfl ((if0 _ _).trans (tlt ((lw_gt _ _).mpr hc3)).2.2.2)) ?_
        show Go p.tables e below s₁ (mkF m 85 #[.val (.long p1), .second, .val (.int p2), .val (.int (p2 &&& (3 : Int32))), .val (.long p1), .second, .val (.int (1 : Int32)), .unset] []) _
        refine go1 (fun _ => XS.iload X0.here hx rfl (hb hby at_85) rfl) ?_
        show Go p.tables e below s₁ (mkF m 87 #[.val (.long p1), .second, .val (.int p2), .val (.int (p2 &&& (3 : Int32))), .val (.long p1), .second, .val (.int (1 : Int32)), .unset] [(.int (1 : Int32))]) _
        refine go1 (fun _ => XS.ifNo X0.here hx rfl (hb hby at_87) rfl ((if0 _ _).trans (feq (by decide : ¬ ((1 : Int32) = (0 : Int32)))).1)) ?_
        show Go p.tables e below s₁ (mkF m 90 #[.val (.long p1), .second, .val (.int p2), .val (.int (p2 &&& (3 : Int32))), .val (.long p1), .second, .val (.int (1 : Int32)), .unset] []) _
        refine go1 (fun _ => XS.iconst X0.here hx rfl (hb hby at_90)) ?_
        show Go p.tables e below s₁ (mkF m 91 #[.val (.long p1), .second, .val (.int p2), .val (.int (p2 &&& (3 : Int32))), .val (.long p1), .second, .val (.int (1 : Int32)), .unset] [(.int (1 : Int32))]) _
        refine go1 (fun _ => XS.goto X0.here hx rfl (pc0 := 91) (pc' := 95) rfl (hb hby at_91) (by decide) (by decide)) ?_
        show Go p.tables e below s₁ (mkF m 95 #[.val (.long p1), .second, .val (.int p2), .val (.int (p2 &&& (3 : Int32))), .val (.long p1), .second, .val (.int (1 : Int32)), .unset] [(.int (1 : Int32))]) _
        refine go1 (fun _ => XS.istore X0.here hx rfl (hb hby at_95) rfl (l' := #[.val (.long p1), .second, .val (.int p2), .val (.int (p2 &&& (3 : Int32))), .val (.long p1), .second, .val (.int (1 : Int32)), .val (.int (1 : Int32))]) rfl) ?_
        show Go p.tables e below s₁ (mkF m 97 #[.val (.long p1), .second, .val (.int p2), .val (.int (p2 &&& (3 : Int32))), .val (.long p1), .second, .val (.int (1 : Int32)), .val (.int (1 : Int32))] []) _
        refine go1 (fun _ => XS.lload X0.here hx rfl (hb hby at_97) rfl) ?_
        show Go p.tables e below s₁ (mkF m 99 #[.val (.long p1), .second, .val (.int p2), .val (.int (p2 &&& (3 : Int32))), .val (.long p1), .second, .val (.int (1 : Int32)), .val (.int (1 : Int32))] [(.long p1)]) _
        obtain ⟨_, _, ⟨T4, L4, k4, n4⟩, -, X4, ⟨Lc4, hQ4, l4, y4, z4⟩, st4⟩ := Jvm.LawKit.callS X0 hx (y := (⟨"com/example/stubwright/stubwright/mapping/JavaTypes", "isChecked", "(J)Z"⟩ : MethodName)) hown (mvT hZ (hw _ (List.mem_of_getElem? (i := 1) rfl))) (mvT hZ (hw _ (List.mem_of_getElem? (i := 2) rfl))) (mvT hZ (hw _ (List.mem_of_getElem? (i := 3) rfl))) (mvT hZ (hw _ (List.mem_of_getElem? (i := 4) rfl))) (by decide) (backOf (W := 0) (rm1 l Z a0 hw [] p1 h0 n0 Z0 ) hZ (hw _ (List.mem_of_getElem? (i := 4) rfl)) (hw _ (List.mem_of_getElem? (i := 3) rfl)) (by decide) (by decide)) (g := (mkF m 99 #[.val (.long p1), .second, .val (.int p2), .val (.int (p2 &&& (3 : Int32))), .val (.long p1), .second, .val (.int (1 : Int32)), .val (.int (1 : Int32))] [(.long p1)])) rfl (by rw [hml]; rfl) (argsL := [(.long p1)]) (rest := []) (lenOf pd0_0 rfl) rfl (by show 2 * 0 + _ ≤ _; exact Nat.le_of_eq rfl) (hb hby at_99) (fun _ _ => ⟨rfl, e0, (by decide : 0 + 0 ≤ _), (by decide : 0 + 0 ≤ _)⟩)
        dsimp only [Pt.U, Pt.locs, Pt.cells, Pt.slots] at X4 l4 y4 z4 st4 hQ4
        subst l4 y4 z4
        obtain ⟨rfl, N4q, e4⟩ := hQ4
        have N4 := Fr.app N0 N4q
        refine go1 st4 ?_
        show Go p.tables e below T4 (mkF m 102 #[.val (.long p1), .second, .val (.int p2), .val (.int (p2 &&& (3 : Int32))), .val (.long p1), .second, .val (.int (1 : Int32)), .val (.int (1 : Int32))] [(.int (own_1 p1))]) _
        refine go1 (fun _ => XS.iload X4.here hx rfl (hb hby at_102) rfl) ?_
        show Go p.tables e below T4 (mkF m 104 #[.val (.long p1), .second, .val (.int p2), .val (.int (p2 &&& (3 : Int32))), .val (.long p1), .second, .val (.int (1 : Int32)), .val (.int (1 : Int32))] [(.int (1 : Int32)), (.int (own_1 p1))]) _
        by_cases hc5 : (own_1 p1) = (1 : Int32)
        · skip
          refine go1 (fun _ => XS.icmpNo X4.here hx rfl (hb hby at_104) rfl (teq hc5).2) ?_
          show Go p.tables e below T4 (mkF m 107 #[.val (.long p1), .second, .val (.int p2), .val (.int (p2 &&& (3 : Int32))), .val (.long p1), .second, .val (.int (1 : Int32)), .val (.int (1 : Int32))] []) _
          refine go1 (fun _ => XS.iconst X4.here hx rfl (hb hby at_107)) ?_
          show Go p.tables e below T4 (mkF m 108 #[.val (.long p1), .second, .val (.int p2), .val (.int (p2 &&& (3 : Int32))), .val (.long p1), .second, .val (.int (1 : Int32)), .val (.int (1 : Int32))] [(.int (1 : Int32))]) _
          refine go1 (fun _ => XS.goto X4.here hx rfl (pc0 := 108) (pc' := 112) rfl (hb hby at_108) (by decide) (by decide)) ?_
          show Go p.tables e below T4 (mkF m 112 #[.val (.long p1), .second, .val (.int p2), .val (.int (p2 &&& (3 : Int32))), .val (.long p1), .second, .val (.int (1 : Int32)), .val (.int (1 : Int32))] [(.int (1 : Int32))]) _
          refine goR X4 (BodyLoose.notSynchronized Bd) (v := (some (.int (1 : Int32)))) (fun h => by rw [Bd.returns] at h; cases h) (Q0 Z p1 p2 h0 n0) (fun fs hr => retN X4 hx (t := .boolean) Bd.returns (by simp) (hb hby at_112) hr) (by decide) (by decide) ?_
          show Q0 Z p1 p2 h0 n0 _ T4.heap _
          rw [e4]
          exact ⟨(by rw [own_0, if_pos hc1, if_pos hc2, if_pos hc3, if_pos hc5]), N4⟩
        · skip
          refine go1 (fun _ => XS.icmpYes X4.here hx rfl (pc0 := 104) (pc' := 111) rfl (hb hby at_104) rfl (feq hc5).2 (by decide) (by decide)) ?_
          show Go p.tables e below T4 (mkF m 111 #[.val (.long p1), .second, .val (.int p2), .val (.int (p2 &&& (3 : Int32))), .val (.long p1), .second, .val (.int (1 : Int32)), .val (.int (1 : Int32))] []) _
          refine go1 (fun _ => XS.iconst X4.here hx rfl (hb hby at_111)) ?_
          show Go p.tables e below T4 (mkF m 112 #[.val (.long p1), .second, .val (.int p2), .val (.int (p2 &&& (3 : Int32))), .val (.long p1), .second, .val (.int (1 : Int32)), .val (.int (1 : Int32))] [(.int (0 : Int32))]) _
          refine goR X4 (BodyLoose.notSynchronized Bd) (v := (some (.int (0 : Int32)))) (fun h => by rw [Bd.returns] at h; cases h) (Q0 Z p1 p2 h0 n0) (fun fs hr => retN X4 hx (t := .boolean) Bd.returns (by simp) (hb hby at_112) hr) (by decide) (by decide) ?_
          show Q0 Z p1 p2 h0 n0 _ T4.heap _
          rw [e4]
          exact ⟨(by rw [own_0, if_pos hc1, if_pos hc2, if_pos hc3, if_neg hc5]), N4⟩
      · skip
        refine go1 (fun _ => XS.ifYes X0.here hx rfl (pc0 := 82) (pc' := 94) rfl (hb hby at_82) rfl ((if0 _ _).trans (flt (mt (lw_gt _ _).mp hc3)).2.2.2) (by decide) (by decide)) ?_
        show Go p.tables e below s₁ (mkF m 94 #[.val (.long p1), .second, .val (.int p2), .val (.int (p2 &&& (3 : Int32))), .val (.long p1), .second, .val (.int (1 : Int32)), .unset] []) _
        refine go1 (fun _ => XS.iconst X0.here hx rfl (hb hby at_94)) ?_
        show Go p.tables e below s₁ (mkF m 95 #[.val (.long p1), .second, .val (.int p2), .val (.int (p2 &&& (3 : Int32))), .val (.long p1), .second, .val (.int (1 : Int32)), .unset] [(.int (0 : Int32))]) _
        refine go1 (fun _ => XS.istore X0.here hx rfl (hb hby at_95) rfl (l' := #[.val (.long p1), .second, .val (.int p2), .val (.int (p2 &&& (3 : Int32))), .val (.long p1), .second, .val (.int (1 : Int32)), .val (.int (0 : Int32))]) rfl) ?_
        show Go p.tables e below s₁ (mkF m 97 #[.val (.long p1), .second, .val (.int p2), .val (.int (p2 &&& (3 : Int32))), .val (.long p1), .second, .val (.int (1 : Int32)), .val (.int (0 : Int32))] []) _
        refine go1 (fun _ => XS.lload X0.here hx rfl (hb hby at_97) rfl) ?_
        show Go p.tables e below s₁ (mkF m 99 #[.val (.long p1), .second, .val (.int p2), .val (.int (p2 &&& (3 : Int32))), .val (.long p1), .second, .val (.int (1 : Int32)), .val (.int (0 : Int32))] [(.long p1)]) _
        obtain ⟨_, _, ⟨T6, L6, k6, n6⟩, -, X6, ⟨Lc6, hQ6, l6, y6, z6⟩, st6⟩ := Jvm.LawKit.callS X0 hx (y := (⟨"com/example/stubwright/stubwright/mapping/JavaTypes", "isChecked", "(J)Z"⟩ : MethodName)) hown (mvT hZ (hw _ (List.mem_of_getElem? (i := 1) rfl))) (mvT hZ (hw _ (List.mem_of_getElem? (i := 2) rfl))) (mvT hZ (hw _ (List.mem_of_getElem? (i := 3) rfl))) (mvT hZ (hw _ (List.mem_of_getElem? (i := 4) rfl))) (by decide) (backOf (W := 0) (rm1 l Z a0 hw [] p1 h0 n0 Z0 ) hZ (hw _ (List.mem_of_getElem? (i := 4) rfl)) (hw _ (List.mem_of_getElem? (i := 3) rfl)) (by decide) (by decide)) (g := (mkF m 99 #[.val (.long p1), .second, .val (.int p2), .val (.int (p2 &&& (3 : Int32))), .val (.long p1), .second, .val (.int (1 : Int32)), .val (.int (0 : Int32))] [(.long p1)])) rfl (by rw [hml]; rfl) (argsL := [(.long p1)]) (rest := []) (lenOf pd0_0 rfl) rfl (by show 2 * 0 + _ ≤ _; exact Nat.le_of_eq rfl) (hb hby at_99) (fun _ _ => ⟨rfl, e0, (by decide : 0 + 0 ≤ _), (by decide : 0 + 0 ≤ _)⟩)
        dsimp only [Pt.U, Pt.locs, Pt.cells, Pt.slots] at X6 l6 y6 z6 st6 hQ6
        subst l6 y6 z6
        obtain ⟨rfl, N6q, e6⟩ := hQ6
        have N6 := Fr.app N0 N6q
        refine go1 st6 ?_
        show Go p.tables e below T6 (mkF m 102 #[.val (.long p1), .second, .val (.int p2), .val (.int (p2 &&& (3 : Int32))), .val (.long p1), .second, .val (.int (1 : Int32)), .val (.int (0 : Int32))] [(.int (own_1 p1))]) _
        refine go1 (fun _ => XS.iload X6.here hx rfl (hb hby at_102) rfl) ?_
        show Go p.tables e below T6 (mkF m 104 #[.val (.long p1), .second, .val (.int p2), .val (.int (p2 &&& (3 : Int32))), .val (.long p1), .second, .val (.int (1 : Int32)), .val (.int (0 : Int32))] [(.int (0 : Int32)), (.int (own_1 p1))]) _
        by_cases hc7 : (own_1 p1) = (0 : Int32)
        · skip
          refine go1 (fun _ => XS.icmpNo X6.here hx rfl (hb hby at_104) rfl (teq hc7).2) ?_
          show Go p.tables e below T6 (mkF m 107 #[.val (.long p1), .second, .val (.int p2), .val (.int (p2 &&& (3 : Int32))), .val (.long p1), .second, .val (.int (1 : Int32)), .val (.int (0 : Int32))] []) _
          refine go1 (fun _ => XS.iconst X6.here hx rfl (hb hby at_107)) ?_
          show Go p.tables e below T6 (mkF m 108 #[.val (.long p1), .second, .val (.int p2), .val (.int (p2 &&& (3 : Int32))), .val (.long p1), .second, .val (.int (1 : Int32)), .val (.int (0 : Int32))] [(.int (1 : Int32))]) _
          refine go1 (fun _ => XS.goto X6.here hx rfl (pc0 := 108) (pc' := 112) rfl (hb hby at_108) (by decide) (by decide)) ?_
          show Go p.tables e below T6 (mkF m 112 #[.val (.long p1), .second, .val (.int p2), .val (.int (p2 &&& (3 : Int32))), .val (.long p1), .second, .val (.int (1 : Int32)), .val (.int (0 : Int32))] [(.int (1 : Int32))]) _
          refine goR X6 (BodyLoose.notSynchronized Bd) (v := (some (.int (1 : Int32)))) (fun h => by rw [Bd.returns] at h; cases h) (Q0 Z p1 p2 h0 n0) (fun fs hr => retN X6 hx (t := .boolean) Bd.returns (by simp) (hb hby at_112) hr) (by decide) (by decide) ?_
          show Q0 Z p1 p2 h0 n0 _ T6.heap _
          rw [e6]
          exact ⟨(by rw [own_0, if_pos hc1, if_pos hc2, if_neg hc3, if_pos hc7]), N6⟩
        · skip
          refine go1 (fun _ => XS.icmpYes X6.here hx rfl (pc0 := 104) (pc' := 111) rfl (hb hby at_104) rfl (feq hc7).2 (by decide) (by decide)) ?_
          show Go p.tables e below T6 (mkF m 111 #[.val (.long p1), .second, .val (.int p2), .val (.int (p2 &&& (3 : Int32))), .val (.long p1), .second, .val (.int (1 : Int32)), .val (.int (0 : Int32))] []) _
          refine go1 (fun _ => XS.iconst X6.here hx rfl (hb hby at_111)) ?_
          show Go p.tables e below T6 (mkF m 112 #[.val (.long p1), .second, .val (.int p2), .val (.int (p2 &&& (3 : Int32))), .val (.long p1), .second, .val (.int (1 : Int32)), .val (.int (0 : Int32))] [(.int (0 : Int32))]) _
          refine goR X6 (BodyLoose.notSynchronized Bd) (v := (some (.int (0 : Int32)))) (fun h => by rw [Bd.returns] at h; cases h) (Q0 Z p1 p2 h0 n0) (fun fs hr => retN X6 hx (t := .boolean) Bd.returns (by simp) (hb hby at_112) hr) (by decide) (by decide) ?_
          show Q0 Z p1 p2 h0 n0 _ T6.heap _
          rw [e6]
          exact ⟨(by rw [own_0, if_pos hc1, if_pos hc2, if_neg hc3, if_neg hc7]), N6⟩
    · skip
      refine go1 (fun _ => XS.ifYes X0.here hx rfl (pc0 := 68) (pc' := 75) rfl (hb hby at_68) rfl ((if0 _ _).trans (feq (mt (lw_eq _ _).mp hc2)).2) (by decide) (by decide)) ?_
      show Go p.tables e below s₁ (mkF m 75 #[.val (.long p1), .second, .val (.int p2), .val (.int (p2 &&& (3 : Int32))), .val (.long p1), .second, .unset, .unset] []) _
      refine go1 (fun _ => XS.iconst X0.here hx rfl (hb hby at_75)) ?_
      show Go p.tables e below s₁ (mkF m 76 #[.val (.long p1), .second, .val (.int p2), .val (.int (p2 &&& (3 : Int32))), .val (.long p1), .second, .unset, .unset] [(.int (0 : Int32))]) _
      refine go1 (fun _ => XS.istore X0.here hx rfl (hb hby at_76) rfl (l' := #[.val (.long p1), .second, .val (.int p2), .val (.int (p2 &&& (3 : Int32))), .val (.long p1), .second, .val (.int (0 : Int32)), .unset]) rfl) ?_
      show Go p.tables e below s₁ (mkF m 78 #[.val (.long p1), .second, .val (.int p2), .val (.int (p2 &&& (3 : Int32))), .val (.long p1), .second, .val (.int (0 : Int32)), .unset] []) _
      refine go1 (fun _ => XS.lload X0.here hx rfl (hb hby at_78) rfl) ?_
      show Go p.tables e below s₁ (mkF m 80 #[.val (.long p1), .second, .val (.int p2), .val (.int (p2 &&& (3 : Int32))), .val (.long p1), .second, .val (.int (0 : Int32)), .unset] [(.long p1)]) _
      refine go1 (fun _ => XS.lconst X0.here hx rfl (hb hby at_80)) ?_
      show Go p.tables e below s₁ (mkF m 81 #[.val (.long p1), .second, .val (.int p2), .val (.int (p2 &&& (3 : Int32))), .val (.long p1), .second, .val (.int (0 : Int32)), .unset] [(.long (0 : Int64)), (.long p1)]) _
      refine go1 (fun _ => XS.lcmp X0.here hx rfl (hb hby at_81) rfl) ?_
      show Go p.tables e below s₁ (mkF m 82 #[.val (.long p1), .second, .val (.int p2), .val (.int (p2 &&& (3 : Int32))), .val (.long p1), .second, .val (.int (0 : Int32)), .unset] [(.int (lcmpW p1 (0 : Int64)))]) _
      by_cases hc8 : (0 : Int64) < p1
      · skip
        refine go1 (fun _ => XS.ifNo X0.here hx rfl (hb hby at_82) rfl ((if0 _ _).trans (tlt ((lw_gt _ _).mpr hc8)).2.2.2)) ?_
        show Go p.tables e below s₁ (mkF m 85 #[.val (.long p1), .second, .val (.int p2), .val (.int (p2 &&& (3 : Int32))), .val (.long p1), .second, .val (.int (0 : Int32)), .unset] []) _
        refine go1 (fun _ => XS.iload X0.here hx rfl (hb hby at_85) rfl) ?_
        show Go p.tables e below s₁ (mkF m 87 #[.val (.long p1), .second, .val (.int p2), .val (.int (p2 &&& (3 : Int32))), .val (.long p1), .second, .val (.int (0 : Int32)), .unset] [(.int (0 : Int32))]) _
        refine go1 (fun _ => XS.ifYes X0.here hx rfl (pc0 := 87) (pc' := 94) rfl (hb hby at_87) rfl ((if0 _ _).trans (teq (by decide : (0 : Int32) = (0 : Int32))).1) (by decide) (by decide)) ?_
        show Go p.tables e below s₁ (mkF m 94 #[.val (.long p1), .second, .val (.int p2), .val (.int (p2 &&& (3 : Int32))), .val (.long p1), .second, .val (.int (0 : Int32)), .unset] []) _
        refine go1 (fun _ => XS.iconst X0.here hx rfl (hb hby at_94)) ?_
        show Go p.tables e below s₁ (mkF m 95 #[.val (.long p1), .second, .val (.int p2), .val (.int (p2 &&& (3 : Int32))), .val (.long p1), .second, .val (.int (0 : Int32)), .unset] [(.int (0 : Int32))]) _
        refine go1 (fun _ => XS.istore X0.here hx rfl (hb hby at_95) rfl (l' := #[.val (.long p1), .second, .val (.int p2), .val (.int (p2 &&& (3 : Int32))), .val (.long p1), .second, .val (.int (0 : Int32)), .val (.int (0 : Int32))]) rfl) ?_
        show Go p.tables e below s₁ (mkF m 97 #[.val (.long p1), .second, .val (.int p2), .val (.int (p2 &&& (3 : Int32))), .val (.long p1), .second, .val (.int (0 : Int32)), .val (.int (0 : Int32))] []) _
        refine go1 (fun _ => XS.lload X0.here hx rfl (hb hby at_97) rfl) ?_
        show Go p.tables e below s₁ (mkF m 99 #[.val (.long p1), .second, .val (.int p2), .val (.int (p2 &&& (3 : Int32))), .val (.long p1), .second, .val (.int (0 : Int32)), .val (.int (0 : Int32))] [(.long p1)]) _
        obtain ⟨_, _, ⟨T9, L9, k9, n9⟩, -, X9, ⟨Lc9, hQ9, l9, y9, z9⟩, st9⟩ := Jvm.LawKit.callS X0 hx (y := (⟨"com/example/stubwright/stubwright/mapping/JavaTypes", "isChecked", "(J)Z"⟩ : MethodName)) hown (mvT hZ (hw _ (List.mem_of_getElem? (i := 1) rfl))) (mvT hZ (hw _ (List.mem_of_getElem? (i := 2) rfl))) (mvT hZ (hw _ (List.mem_of_getElem? (i := 3) rfl))) (mvT hZ (hw _ (List.mem_of_getElem? (i := 4) rfl))) (by decide) (backOf (W := 0) (rm1 l Z a0 hw [] p1 h0 n0 Z0 ) hZ (hw _ (List.mem_of_getElem? (i := 4) rfl)) (hw _ (List.mem_of_getElem? (i := 3) rfl)) (by decide) (by decide)) (g := (mkF m 99 #[.val (.long p1), .second, .val (.int p2), .val (.int (p2 &&& (3 : Int32))), .val (.long p1), .second, .val (.int (0 : Int32)), .val (.int (0 : Int32))] [(.long p1)])) rfl (by rw [hml]; rfl) (argsL := [(.long p1)]) (rest := []) (lenOf pd0_0 rfl) rfl (by show 2 * 0 + _ ≤ _; exact Nat.le_of_eq rfl) (hb hby at_99) (fun _ _ => ⟨rfl, e0, (by decide : 0 + 0 ≤ _), (by decide : 0 + 0 ≤ _)⟩)
        dsimp only [Pt.U, Pt.locs, Pt.cells, Pt.slots] at X9 l9 y9 z9 st9 hQ9
        subst l9 y9 z9
        obtain ⟨rfl, N9q, e9⟩ := hQ9
        have N9 := Fr.app N0 N9q
        refine go1 st9 ?_
        show Go p.tables e below T9 (mkF m 102 #[.val (.long p1), .second, .val (.int p2), .val (.int (p2 &&& (3 : Int32))), .val (.long p1), .second, .val (.int (0 : Int32)), .val (.int (0 : Int32))] [(.int (own_1 p1))]) _
        refine go1 (fun _ => XS.iload X9.here hx rfl (hb hby at_102) rfl) ?_
        show Go p.tables e below T9 (mkF m 104 #[.val (.long p1), .second, .val (.int p2), .val (.int (p2 &&& (3 : Int32))), .val (.long p1), .second, .val (.int (0 : Int32)), .val (.int (0 : Int32))] [(.int (0 : Int32)), (.int (own_1 p1))]) _
        by_cases hc10 : (own_1 p1) = (0 : Int32)
        · skip
          refine go1 (fun _ => XS.icmpNo X9.here hx rfl (hb hby at_104) rfl (teq hc10).2) ?_
          show Go p.tables e below T9 (mkF m 107 #[.val (.long p1), .second, .val (.int p2), .val (.int (p2 &&& (3 : Int32))), .val (.long p1), .second, .val (.int (0 : Int32)), .val (.int (0 : Int32))] []) _
          refine go1 (fun _ => XS.iconst X9.here hx rfl (hb hby at_107)) ?_
          show Go p.tables e below T9 (mkF m 108 #[.val (.long p1), .second, .val (.int p2), .val (.int (p2 &&& (3 : Int32))), .val (.long p1), .second, .val (.int (0 : Int32)), .val (.int (0 : Int32))] [(.int (1 : Int32))]) _
          refine go1 (fun _ => XS.goto X9.here hx rfl (pc0 := 108) (pc' := 112) rfl (hb hby at_108) (by decide) (by decide)) ?_
          show Go p.tables e below T9 (mkF m 112 #[.val (.long p1), .second, .val (.int p2), .val (.int (p2 &&& (3 : Int32))), .val (.long p1), .second, .val (.int (0 : Int32)), .val (.int (0 : Int32))] [(.int (1 : Int32))]) _
          refine goR X9 (BodyLoose.notSynchronized Bd) (v := (some (.int (1 : Int32)))) (fun h => by rw [Bd.returns] at h; cases h) (Q0 Z p1 p2 h0 n0) (fun fs hr => retN X9 hx (t := .boolean) Bd.returns (by simp) (hb hby at_112) hr) (by decide) (by decide) ?_
          show Q0 Z p1 p2 h0 n0 _ T9.heap _
          rw [e9]
          exact ⟨(by rw [own_0, if_pos hc1, if_neg hc2, if_pos hc8, if_pos hc10]), N9⟩
        · skip
          refine go1 (fun _ => XS.icmpYes X9.here hx rfl (pc0 := 104) (pc' := 111) rfl (hb hby at_104) rfl (feq hc10).2 (by decide) (by decide)) ?_
          show Go p.tables e below T9 (mkF m 111 #[.val (.long p1), .second, .val (.int p2), .val (.int (p2 &&& (3 : Int32))), .val (.long p1), .second, .val (.int (0 : Int32)), .val (.int (0 : Int32))] []) _
          refine go1 (fun _ => XS.iconst X9.here hx rfl (hb hby at_111)) ?_
          show Go p.tables e below T9 (mkF m 112 #[.val (.long p1), .second, .val (.int p2), .val (.int (p2 &&& (3 : Int32))), .val (.long p1), .second, .val (.int (0 : Int32)), .val (.int (0 : Int32))] [(.int (0 : Int32))]) _
          refine goR X9 (BodyLoose.notSynchronized Bd) (v := (some (.int (0 : Int32)))) (fun h => by rw [Bd.returns] at h; cases h) (Q0 Z p1 p2 h0 n0) (fun fs hr => retN X9 hx (t := .boolean) Bd.returns (by simp) (hb hby at_112) hr) (by decide) (by decide) ?_
          show Q0 Z p1 p2 h0 n0 _ T9.heap _
          rw [e9]
          exact ⟨(by rw [own_0, if_pos hc1, if_neg hc2, if_pos hc8, if_neg hc10]), N9⟩
      · skip
        refine go1 (fun _ => XS.ifYes X0.here hx rfl (pc0 := 82) (pc' := 94) rfl (hb hby at_82) rfl ((if0 _ _).trans (flt (mt (lw_gt _ _).mp hc8)).2.2.2) (by decide) (by decide)) ?_
        show Go p.tables e below s₁ (mkF m 94 #[.val (.long p1), .second, .val (.int p2), .val (.int (p2 &&& (3 : Int32))), .val (.long p1), .second, .val (.int (0 : Int32)), .unset] []) _
        refine go1 (fun _ => XS.iconst X0.here hx rfl (hb hby at_94)) ?_
        show Go p.tables e below s₁ (mkF m 95 #[.val (.long p1), .second, .val (.int p2), .val (.int (p2 &&& (3 : Int32))), .val (.long p1), .second, .val (.int (0 : Int32)), .unset] [(.int (0 : Int32))]) _
        refine go1 (fun _ => XS.istore X0.here hx rfl (hb hby at_95) rfl (l' := #[.val (.long p1), .second, .val (.int p2), .val (.int (p2 &&& (3 : Int32))), .val (.long p1), .second, .val (.int (0 : Int32)), .val (.int (0 : Int32))]) rfl) ?_
        show Go p.tables e below s₁ (mkF m 97 #[.val (.long p1), .second, .val (.int p2), .val (.int (p2 &&& (3 : Int32))), .val (.long p1), .second, .val (.int (0 : Int32)), .val (.int (0 : Int32))] []) _
        refine go1 (fun _ => XS.lload X0.here hx rfl (hb hby at_97) rfl) ?_
        show Go p.tables e below s₁ (mkF m 99 #[.val (.long p1), .second, .val (.int p2), .val (.int (p2 &&& (3 : Int32))), .val (.long p1), .second, .val (.int (0 : Int32)), .val (.int (0 : Int32))] [(.long p1)]) _
        obtain ⟨_, _, ⟨T11, L11, k11, n11⟩, -, X11, ⟨Lc11, hQ11, l11, y11, z11⟩, st11⟩ := Jvm.LawKit.callS X0 hx (y := (⟨"com/example/stubwright/stubwright/mapping/JavaTypes", "isChecked", "(J)Z"⟩ : MethodName)) hown (mvT hZ (hw _ (List.mem_of_getElem? (i := 1) rfl))) (mvT hZ (hw _ (List.mem_of_getElem? (i := 2) rfl))) (mvT hZ (hw _ (List.mem_of_getElem? (i := 3) rfl))) (mvT hZ (hw _ (List.mem_of_getElem? (i := 4) rfl))) (by decide) (backOf (W := 0) (rm1 l Z a0 hw [] p1 h0 n0 Z0 ) hZ (hw _ (List.mem_of_getElem? (i := 4) rfl)) (hw _ (List.mem_of_getElem? (i := 3) rfl)) (by decide) (by decide)) (g := (mkF m 99 #[.val (.long p1), .second, .val (.int p2), .val (.int (p2 &&& (3 : Int32))), .val (.long p1), .second, .val (.int (0 : Int32)), .val (.int (0 : Int32))] [(.long p1)])) rfl (by rw [hml]; rfl) (argsL := [(.long p1)]) (rest := []) (lenOf pd0_0 rfl) rfl (by show 2 * 0 + _ ≤ _; exact Nat.le_of_eq rfl) (hb hby at_99) (fun _ _ => ⟨rfl, e0, (by decide : 0 + 0 ≤ _), (by decide : 0 + 0 ≤ _)⟩)
        dsimp only [Pt.U, Pt.locs, Pt.cells, Pt.slots] at X11 l11 y11 z11 st11 hQ11
        subst l11 y11 z11
        obtain ⟨rfl, N11q, e11⟩ := hQ11
        have N11 := Fr.app N0 N11q
        refine go1 st11 ?_
        show Go p.tables e below T11 (mkF m 102 #[.val (.long p1), .second, .val (.int p2), .val (.int (p2 &&& (3 : Int32))), .val (.long p1), .second, .val (.int (0 : Int32)), .val (.int (0 : Int32))] [(.int (own_1 p1))]) _
        refine go1 (fun _ => XS.iload X11.here hx rfl (hb hby at_102) rfl) ?_
        show Go p.tables e below T11 (mkF m 104 #[.val (.long p1), .second, .val (.int p2), .val (.int (p2 &&& (3 : Int32))), .val (.long p1), .second, .val (.int (0 : Int32)), .val (.int (0 : Int32))] [(.int (0 : Int32)), (.int (own_1 p1))]) _
        by_cases hc12 : (own_1 p1) = (0 : Int32)
        · skip
          refine go1 (fun _ => XS.icmpNo X11.here hx rfl (hb hby at_104) rfl (teq hc12).2) ?_
          show Go p.tables e below T11 (mkF m 107 #[.val (.long p1), .second, .val (.int p2), .val (.int (p2 &&& (3 : Int32))), .val (.long p1), .second, .val (.int (0 : Int32)), .val (.int (0 : Int32))] []) _
          refine go1 (fun _ => XS.iconst X11.here hx rfl (hb hby at_107)) ?_
          show Go p.tables e below T11 (mkF m 108 #[.val (.long p1), .second, .val (.int p2), .val (.int (p2 &&& (3 : Int32))), .val (.long p1), .second, .val (.int (0 : Int32)), .val (.int (0 : Int32))] [(.int (1 : Int32))]) _
          refine go1 (fun _ => XS.goto X11.here hx rfl (pc0 := 108) (pc' := 112) rfl (hb hby at_108) (by decide) (by decide)) ?_
          show Go p.tables e below T11 (mkF m 112 #[.val (.long p1), .second, .val (.int p2), .val (.int (p2 &&& (3 : Int32))), .val (.long p1), .second, .val (.int (0 : Int32)), .val (.int (0 : Int32))] [(.int (1 : Int32))]) _
          refine goR X11 (BodyLoose.notSynchronized Bd) (v := (some (.int (1 : Int32)))) (fun h => by rw [Bd.returns] at h; cases h) (Q0 Z p1 p2 h0 n0) (fun fs hr => retN X11 hx (t := .boolean) Bd.returns (by simp) (hb hby at_112) hr) (by decide) (by decide) ?_
          show Q0 Z p1 p2 h0 n0 _ T11.heap _
          rw [e11]
          exact ⟨(by rw [own_0, if_pos hc1, if_neg hc2, if_neg hc8, if_pos hc12]), N11⟩
        · skip
          refine go1 (fun _ => XS.icmpYes X11.here hx rfl (pc0 := 104) (pc' := 111) rfl (hb hby at_104) rfl (feq hc12).2 (by decide) (by decide)) ?_
          show Go p.tables e below T11 (mkF m 111 #[.val (.long p1), .second, .val (.int p2), .val (.int (p2 &&& (3 : Int32))), .val (.long p1), .second, .val (.int (0 : Int32)), .val (.int (0 : Int32))] []) _
          refine go1 (fun _ => XS.iconst X11.here hx rfl (hb hby at_111)) ?_
          show Go p.tables e below T11 (mkF m 112 #[.val (.long p1), .second, .val (.int p2), .val (.int (p2 &&& (3 : Int32))), .val (.long p1), .second, .val (.int (0 : Int32)), .val (.int (0 : Int32))] [(.int (0 : Int32))]) _
          refine goR X11 (BodyLoose.notSynchronized Bd) (v := (some (.int (0 : Int32)))) (fun h => by rw [Bd.returns] at h; cases h) (Q0 Z p1 p2 h0 n0) (fun fs hr => retN X11 hx (t := .boolean) Bd.returns (by simp) (hb hby at_112) hr) (by decide) (by decide) ?_
          show Q0 Z p1 p2 h0 n0 _ T11.heap _
          rw [e11]
          exact ⟨(by rw [own_0, if_pos hc1, if_neg hc2, if_neg hc8, if_neg hc12]), N11⟩
  · skip
    refine go1 (fun _ => XS.ifYes X0.here hx rfl (pc0 := 5) (pc' := 14) rfl (hb hby at_5) rfl ((if0 _ _).trans (feq hc1).2) (by decide) (by decide)) ?_
    show Go p.tables e below s₁ (mkF m 14 #[.val (.long p1), .second, .val (.int p2), .val (.int (p2 &&& (3 : Int32))), .unset, .unset, .unset, .unset] []) _
    refine go1 (fun _ => XS.iloadN X0.here hx rfl (hb hby at_14) rfl) ?_
    show Go p.tables e below s₁ (mkF m 15 #[.val (.long p1), .second, .val (.int p2), .val (.int (p2 &&& (3 : Int32))), .unset, .unset, .unset, .unset] [(.int (p2 &&& (3 : Int32)))]) _
    refine go1 (fun _ => XS.iconst X0.here hx rfl (hb hby at_15)) ?_
    show Go p.tables e below s₁ (mkF m 16 #[.val (.long p1), .second, .val (.int p2), .val (.int (p2 &&& (3 : Int32))), .unset, .unset, .unset, .unset] [(.int (1 : Int32)), (.int (p2 &&& (3 : Int32)))]) _
    by_cases hc13 : (p2 &&& (3 : Int32)) = (1 : Int32)
    · skip
      refine go1 (fun _ => XS.icmpNo X0.here hx rfl (hb hby at_16) rfl (teq hc13).2) ?_
      show Go p.tables e below s₁ (mkF m 19 #[.val (.long p1), .second, .val (.int p2), .val (.int (p2 &&& (3 : Int32))), .unset, .unset, .unset, .unset] []) _
      refine go1 (X0.ldc2Long hx hown (mvT hZ (hw _ (List.mem_of_getElem? (i := 7) rfl))) (g := (mkF m 19 #[.val (.long p1), .second, .val (.int p2), .val (.int (p2 &&& (3 : Int32))), .unset, .unset, .unset, .unset] [])) rfl (hb hby at_19)) ?_
      show Go p.tables e below s₁ (mkF m 22 #[.val (.long p1), .second, .val (.int p2), .val (.int (p2 &&& (3 : Int32))), .unset, .unset, .unset, .unset] [(.long (2147483647 : Int64))]) _
      refine go1 (fun _ => XS.lloadN X0.here hx rfl (hb hby at_22) rfl) ?_
      show Go p.tables e below s₁ (mkF m 23 #[.val (.long p1), .second, .val (.int p2), .val (.int (p2 &&& (3 : Int32))), .unset, .unset, .unset, .unset] [(.long p1), (.long (2147483647 : Int64))]) _
      refine go1 (X0.ldc2Long hx hown (mvT hZ (hw _ (List.mem_of_getElem? (i := 0) rfl))) (g := (mkF m 23 #[.val (.long p1), .second, .val (.int p2), .val (.int (p2 &&& (3 : Int32))), .unset, .unset, .unset, .unset] [(.long p1), (.long (2147483647 : Int64))])) rfl (hb hby at_23)) ?_
      show Go p.tables e below s₁ (mkF m 26 #[.val (.long p1), .second, .val (.int p2), .val (.int (p2 &&& (3 : Int32))), .unset, .unset, .unset, .unset] [(.long (3 : Int64)), (.long p1), (.long (2147483647 : Int64))]) _
      refine go1 (fun _ => XS.land X0.here hx rfl (hb hby at_26) rfl) ?_
      show Go p.tables e below s₁ (mkF m 27 #[.val (.long p1), .second, .val (.int p2), .val (.int (p2 &&& (3 : Int32))), .unset, .unset, .unset, .unset] [(.long (p1 &&& (3 : Int64))), (.long (2147483647 : Int64))]) _
      refine go1 (fun _ => XS.ladd X0.here hx rfl (hb hby at_27) rfl) ?_
      show Go p.tables e below s₁ (mkF m 28 #[.val (.long p1), .second, .val (.int p2), .val (.int (p2 &&& (3 : Int32))), .unset, .unset, .unset, .unset] [(.long ((2147483647 : Int64) + (p1 &&& (3 : Int64))))]) _
      refine go1 (fun _ => XS.lconst X0.here hx rfl (hb hby at_28)) ?_
      show Go p.tables e below s₁ (mkF m 29 #[.val (.long p1), .second, .val (.int p2), .val (.int (p2 &&& (3 : Int32))), .unset, .unset, .unset, .unset] [(.long (1 : Int64)), (.long ((2147483647 : Int64) + (p1 &&& (3 : Int64))))]) _
      refine go1 (fun _ => XS.lsub X0.here hx rfl (hb hby at_29) rfl) ?_
      show Go p.tables e below s₁ (mkF m 30 #[.val (.long p1), .second, .val (.int p2), .val (.int (p2 &&& (3 : Int32))), .unset, .unset, .unset, .unset] [(.long (((2147483647 : Int64) + (p1 &&& (3 : Int64))) - (1 : Int64)))]) _
      refine go1 (fun _ => XS.lstore X0.here hx rfl (hb hby at_30) rfl (l' := #[.val (.long p1), .second, .val (.int p2), .val (.int (p2 &&& (3 : Int32))), .val (.long (((2147483647 : Int64) + (p1 &&& (3 : Int64))) - (1 : Int64))), .second, .unset, .unset]) rfl) ?_
      show Go p.tables e below s₁ (mkF m 32 #[.val (.long p1), .second, .val (.int p2), .val (.int (p2 &&& (3 : Int32))), .val (.long (((2147483647 : Int64) + (p1 &&& (3 : Int64))) - (1 : Int64))), .second, .unset, .unset] []) _
      refine go1 (fun _ => XS.goto X0.here hx rfl (pc0 := 32) (pc' := 61) rfl (hb hby at_32) (by decide) (by decide)) ?_
      show Go p.tables e below s₁ (mkF m 61 #[.val (.long p1), .second, .val (.int p2), .val (.int (p2 &&& (3 : Int32))), .val (.long (((2147483647 : Int64) + (p1 &&& (3 : Int64))) - (1 : Int64))), .second, .unset, .unset] []) _
      refine go1 (fun _ => XS.lload X0.here hx rfl (hb hby at_61) rfl) ?_
      show Go p.tables e below s₁ (mkF m 63 #[.val (.long p1), .second, .val (.int p2), .val (.int (p2 &&& (3 : Int32))), .val (.long (((2147483647 : Int64) + (p1 &&& (3 : Int64))) - (1 : Int64))), .second, .unset, .unset] [(.long (((2147483647 : Int64) + (p1 &&& (3 : Int64))) - (1 : Int64)))]) _
      refine go1 (fun _ => XS.l2i X0.here hx rfl (hb hby at_63) rfl) ?_
      show Go p.tables e below s₁ (mkF m 64 #[.val (.long p1), .second, .val (.int p2), .val (.int (p2 &&& (3 : Int32))), .val (.long (((2147483647 : Int64) + (p1 &&& (3 : Int64))) - (1 : Int64))), .second, .unset, .unset] [(.int ((((2147483647 : Int64) + (p1 &&& (3 : Int64))) - (1 : Int64)).toInt32))]) _
      refine go1 (fun _ => XS.i2l X0.here hx rfl (hb hby at_64) rfl) ?_
      show Go p.tables e below s₁ (mkF m 65 #[.val (.long p1), .second, .val (.int p2), .val (.int (p2 &&& (3 : Int32))), .val (.long (((2147483647 : Int64) + (p1 &&& (3 : Int64))) - (1 : Int64))), .second, .unset, .unset] [(.long (((((2147483647 : Int64) + (p1 &&& (3 : Int64))) - (1 : Int64)).toInt32).toInt64))]) _
      refine go1 (fun _ => XS.lload X0.here hx rfl (hb hby at_65) rfl) ?_
      show Go p.tables e below s₁ (mkF m 67 #[.val (.long p1), .second, .val (.int p2), .val (.int (p2 &&& (3 : Int32))), .val (.long (((2147483647 : Int64) + (p1 &&& (3 : Int64))) - (1 : Int64))), .second, .unset, .unset] [(.long (((2147483647 : Int64) + (p1 &&& (3 : Int64))) - (1 : Int64))), (.long (((((2147483647 : Int64) + (p1 &&& (3 : Int64))) - (1 : Int64)).toInt32).toInt64))]) _
      refine go1 (fun _ => XS.lcmp X0.here hx rfl (hb hby at_67) rfl) ?_
      show Go p.tables e below s₁ (mkF m 68 #[.val (.long p1), .second, .val (.int p2), .val (.int (p2 &&& (3 : Int32))), .val (.long (((2147483647 : Int64) + (p1 &&& (3 : Int64))) - (1 : Int64))), .second, .unset, .unset] [(.int (lcmpW (((((2147483647 : Int64) + (p1 &&& (3 : Int64))) - (1 : Int64)).toInt32).toInt64) (((2147483647 : Int64) + (p1 &&& (3 : Int64))) - (1 : Int64))))]) _
      by_cases hc14 : (((((2147483647 : Int64) + (p1 &&& (3 : Int64))) - (1 : Int64)).toInt32).toInt64) = (((2147483647 : Int64) + (p1 &&& (3 : Int64))) - (1 : Int64))
      · skip
        refine go1 (fun _ => XS.ifNo X0.here hx rfl (hb hby at_68) rfl ((if0 _ _).trans (teq ((lw_eq _ _).mpr hc14)).2)) ?_
        show Go p.tables e below s₁ (mkF m 71 #[.val (.long p1), .second, .val (.int p2), .val (.int (p2 &&& (3 : Int32))), .val (.long (((2147483647 : Int64) + (p1 &&& (3 : Int64))) - (1 : Int64))), .second, .unset, .unset] []) _
        refine go1 (fun _ => XS.iconst X0.here hx rfl (hb hby at_71)) ?_
        show Go p.tables e below s₁ (mkF m 72 #[.val (.long p1), .second, .val (.int p2), .val (.int (p2 &&& (3 : Int32))), .val (.long (((2147483647 : Int64) + (p1 &&& (3 : Int64))) - (1 : Int64))), .second, .unset, .unset] [(.int (1 : Int32))]) _
        refine go1 (fun _ => XS.goto X0.here hx rfl (pc0 := 72) (pc' := 76) rfl (hb hby at_72) (by decide) (by decide)) ?_
        show Go p.tables e below s₁ (mkF m 76 #[.val (.long p1), .second, .val (.int p2), .val (.int (p2 &&& (3 : Int32))), .val (.long (((2147483647 : Int64) + (p1 &&& (3 : Int64))) - (1 : Int64))), .second, .unset, .unset] [(.int (1 : Int32))]) _
        refine go1 (fun _ => XS.istore X0.here hx rfl (hb hby at_76) rfl (l' := #[.val (.long p1), .second, .val (.int p2), .val (.int (p2 &&& (3 : Int32))), .val (.long (((2147483647 : Int64) + (p1 &&& (3 : Int64))) - (1 : Int64))), .second, .val (.int (1 : Int32)), .unset]) rfl) ?_
        show Go p.tables e below s₁ (mkF m 78 #[.val (.long p1), .second, .val (.int p2), .val (.int (p2 &&& (3 : Int32))), .val (.long (((2147483647 : Int64) + (p1 &&& (3 : Int64))) - (1 : Int64))), .second, .val (.int (1 : Int32)), .unset] []) _
        refine go1 (fun _ => XS.lload X0.here hx rfl (hb hby at_78) rfl) ?_
        show Go p.tables e below s₁ (mkF m 80 #[.val (.long p1), .second, .val (.int p2), .val (.int (p2 &&& (3 : Int32))), .val (.long (((2147483647 : Int64) + (p1 &&& (3 : Int64))) - (1 : Int64))), .second, .val (.int (1 : Int32)), .unset] [(.long (((2147483647 : Int64) + (p1 &&& (3 : Int64))) - (1 : Int64)))]) _
        refine go1 (fun _ => XS.lconst X0.here hx rfl (hb hby at_80)) ?_
        show Go p.tables e below s₁ (mkF m 81 #[.val (.long p1), .second, .val (.int p2), .val (.int (p2 &&& (3 : Int32))), .val (.long (((2147483647 : Int64) + (p1 &&& (3 : Int64))) - (1 : Int64))), .second, .val (.int (1 : Int32)), .unset] [(.long (0 : Int64)), (.long (((2147483647 : Int64) + (p1 &&& (3 : Int64))) - (1 : Int64)))]) _
        refine go1 (fun _ => XS.lcmp X0.here hx rfl (hb hby at_81) rfl) ?_
        show Go p.tables e below s₁ (mkF m 82 #[.val (.long p1), .second, .val (.int p2), .val (.int (p2 &&& (3 : Int32))), .val (.long (((2147483647 : Int64) + (p1 &&& (3 : Int64))) - (1 : Int64))), .second, .val (.int (1 : Int32)), .unset] [(.int (lcmpW (((2147483647 : Int64) + (p1 &&& (3 : Int64))) - (1 : Int64)) (0 : Int64)))]) _
        by_cases hc15 : (0 : Int64) < (((2147483647 : Int64) + (p1 &&& (3 : Int64))) - (1 : Int64))
        · skip
          refine go1 (fun _ => XS.ifNo X0.here hx rfl (hb hby at_82) rfl ((if0 _ _).trans (tlt ((lw_gt _ _).mpr hc15)).2.2.2)) ?_
          show Go p.tables e below s₁ (mkF m 85 #[.val (.long p1), .second, .val (.int p2), .val (.int (p2 &&& (3 : Int32))), .val (.long (((2147483647 : Int64) + (p1 &&& (3 : Int64))) - (1 : Int64))), .second, .val (.int (1 : Int32)), .unset] []) _
          refine go1 (fun _ => XS.iload X0.here hx rfl (hb hby at_85) rfl) ?_
          show Go p.tables e below s₁ (mkF m 87 #[.val (.long p1), .second, .val (.int p2), .val (.int (p2 &&& (3 : Int32))), .val (.long (((2147483647 : Int64) + (p1 &&& (3 : Int64))) - (1 : Int64))), .second, .val (.int (1 : Int32)), .unset] [(.int (1 : Int32))]) _
          refine go1 (fun _ => XS.ifNo X0.here hx rfl (hb hby at_87) rfl ((if0 _ _).trans (feq (by decide : ¬ ((1 : Int32) = (0 : Int32)))).1)) ?_
          show Go p.tables e below s₁ (mkF m 90 #[.val (.long p1), .second, .val (.int p2), .val (.int (p2 &&& (3 : Int32))), .val (.long (((2147483647 : Int64) + (p1 &&& (3 : Int64))) - (1 : Int64))), .second, .val (.int (1 : Int32)), .unset] []) _
          refine go1 (fun _ => XS.iconst X0.here hx rfl (hb hby at_90)) ?_
          show Go p.tables e below s₁ (mkF m 91 #[.val (.long p1), .second, .val (.int p2), .val (.int (p2 &&& (3 : Int32))), .val (.long (((2147483647 : Int64) + (p1 &&& (3 : Int64))) - (1 : Int64))), .second, .val (.int (1 : Int32)), .unset] [(.int (1 : Int32))]) _
          refine go1 (fun _ => XS.goto X0.here hx rfl (pc0 := 91) (pc' := 95) rfl (hb hby at_91) (by decide) (by decide)) ?_
          show Go p.tables e below s₁ (mkF m 95 #[.val (.long p1), .second, .val (.int p2), .val (.int (p2 &&& (3 : Int32))), .val (.long (((2147483647 : Int64) + (p1 &&& (3 : Int64))) - (1 : Int64))), .second, .val (.int (1 : Int32)), .unset] [(.int (1 : Int32))]) _
          refine go1 (fun _ => XS.istore X0.here hx rfl (hb hby at_95) rfl (l' := #[.val (.long p1), .second, .val (.int p2), .val (.int (p2 &&& (3 : Int32))), .val (.long (((2147483647 : Int64) + (p1 &&& (3 : Int64))) - (1 : Int64))), .second, .val (.int (1 : Int32)), .val (.int (1 : Int32))]) rfl) ?_
          show Go p.tables e below s₁ (mkF m 97 #[.val (.long p1), .second, .val (.int p2), .val (.int (p2 &&& (3 : Int32))), .val (.long (((2147483647 : Int64) + (p1 &&& (3 : Int64))) - (1 : Int64))), .second, .val (.int (1 : Int32)), .val (.int (1 : Int32))] []) _
          refine go1 (fun _ => XS.lload X0.here hx rfl (hb hby at_97) rfl) ?_
          show Go p.tables e below s₁ (mkF m 99 #[.val (.long p1), .second, .val (.int p2), .val (.int (p2 &&& (3 : Int32))), .val (.long (((2147483647 : Int64) + (p1 &&& (3 : Int64))) - (1 : Int64))), .second, .val (.int (1 : Int32)), .val (.int (1 : Int32))] [(.long (((2147483647 : Int64) + (p1 &&& (3 : Int64))) - (1 : Int64)))]) _
          obtain ⟨_, _, ⟨T16, L16, k16, n16⟩, -, X16, ⟨Lc16, hQ16, l16, y16, z16⟩, st16⟩ := Jvm.LawKit.callS X0 hx (y := (⟨"com/example/stubwright/stubwright/mapping/JavaTypes", "isChecked", "(J)Z"⟩ : MethodName)) hown (mvT hZ (hw _ (List.mem_of_getElem? (i := 1) rfl))) (mvT hZ (hw _ (List.mem_of_getElem? (i := 2) rfl))) (mvT hZ (hw _ (List.mem_of_getElem? (i := 3) rfl))) (mvT hZ (hw _ (List.mem_of_getElem? (i := 4) rfl))) (by decide) (backOf (W := 0) (rm1 l Z a0 hw [] (((2147483647 : Int64) + (p1 &&& (3 : Int64))) - (1 : Int64)) h0 n0 Z0 ) hZ (hw _ (List.mem_of_getElem? (i := 4) rfl)) (hw _ (List.mem_of_getElem? (i := 3) rfl)) (by decide) (by decide)) (g := (mkF m 99 #[.val (.long p1), .second, .val (.int p2), .val (.int (p2 &&& (3 : Int32))), .val (.long (((2147483647 : Int64) + (p1 &&& (3 : Int64))) - (1 : Int64))), .second, .val (.int (1 : Int32)), .val (.int (1 : Int32))] [(.long (((2147483647 : Int64) + (p1 &&& (3 : Int64))) - (1 : Int64)))])) rfl (by rw [hml]; rfl) (argsL := [(.long (((2147483647 : Int64) + (p1 &&& (3 : Int64))) - (1 : Int64)))]) (rest := []) (lenOf pd0_0 rfl) rfl (by show 2 * 0 + _ ≤ _; exact Nat.le_of_eq rfl) (hb hby at_99) (fun _ _ => ⟨rfl, e0, (by decide : 0 + 0 ≤ _), (by decide : 0 + 0 ≤ _)⟩)
          dsimp only [Pt.U, Pt.locs, Pt.cells, Pt.slots] at X16 l16 y16 z16 st16 hQ16
          subst l16 y16 z16
          obtain ⟨rfl, N16q, e16⟩ := hQ16
          have N16 := Fr.app N0 N16q
          refine go1 st16 ?_
          show Go p.tables e below T16 (mkF m 102 #[.val (.long p1), .second, .val (.int p2), .val (.int (p2 &&& (3 : Int32))), .val (.long (((2147483647 : Int64) + (p1 &&& (3 : Int64))) - (1 : Int64))), .second, .val (.int (1 : Int32)), .val (.int (1 : Int32))] [(.int (own_1 (((2147483647 : Int64) + (p1 &&& (3 : Int64))) - (1 : Int64))))]) _
          refine go1 (fun _ => XS.iload X16.here hx rfl (hb hby at_102) rfl) ?_
          show Go p.tables e below T16 (mkF m 104 #[.val (.long p1), .second, .val (.int p2), .val (.int (p2 &&& (3 : Int32))), .val (.long (((2147483647 : Int64) + (p1 &&& (3 : Int64))) - (1 : Int64))), .second, .val (.int (1 : Int32)), .val (.int (1 : Int32))] [(.int (1 : Int32)), (.int (own_1 (((2147483647 : Int64) + (p1 &&& (3 : Int64))) - (1 : Int64))))]) _
          by_cases hc17 : (own_1 (((2147483647 : Int64) + (p1 &&& (3 : Int64))) - (1 : Int64))) = (1 : Int32)
          · skip
            refine go1 (fun _ => XS.icmpNo X16.here hx rfl (hb hby at_104) rfl (teq hc17).2) ?_
            show Go p.tables e below T16 (mkF m 107 #[.val (.long p1), .second, .val (.int p2), .val (.int (p2 &&& (3 : Int32))), .val (.long (((2147483647 : Int64) + (p1 &&& (3 : Int64))) - (1 : Int64))), .second, .val (.int (1 : Int32)), .val (.int (1 : Int32))] []) _
            refine go1 (fun _ => XS.iconst X16.here hx rfl (hb hby at_107)) ?_
            show Go p.tables e below T16 (mkF m 108 #[.val (.long p1), .second, .val (.int p2), .val (.int (p2 &&& (3 : Int32))), .val (.long (((2147483647 : Int64) + (p1 &&& (3 : Int64))) - (1 : Int64))), .second, .val (.int (1 : Int32)), .val (.int (1 : Int32))] [(.int (1 : Int32))]) _
            refine go1 (fun _ => XS.goto X16.here hx rfl (pc0 := 108) (pc' := 112) rfl (hb hby at_108) (by decide) (by decide)) ?_
            show Go p.tables e below T16 (mkF m 112 #[.val (.long p1), .second, .val (.int p2), .val (.int (p2 &&& (3 : Int32))), .val (.long (((2147483647 : Int64) + (p1 &&& (3 : Int64))) - (1 : Int64))), .second, .val (.int (1 : Int32)), .val (.int (1 : Int32))] [(.int (1 : Int32))]) _
            refine goR X16 (BodyLoose.notSynchronized Bd) (v := (some (.int (1 : Int32)))) (fun h => by rw [Bd.returns] at h; cases h) (Q0 Z p1 p2 h0 n0) (fun fs hr => retN X16 hx (t := .boolean) Bd.returns (by simp) (hb hby at_112) hr) (by decide) (by decide) ?_
            show Q0 Z p1 p2 h0 n0 _ T16.heap _
            rw [e16]
            exact ⟨(by rw [own_0, if_neg hc1, if_pos hc13, if_pos hc14, if_pos hc15, if_pos hc17]), N16⟩
          · skip
            refine go1 (fun _ => XS.icmpYes X16.here hx rfl (pc0 := 104) (pc' := 111) rfl (hb hby at_104) rfl (feq hc17).2 (by decide) (by decide)) ?_
            show Go p.tables e below T16 (mkF m 111 #[.val (.long p1), .second, .val (.int p2), .val (.int (p2 &&& (3 : Int32))), .val (.long (((2147483647 : Int64) + (p1 &&& (3 : Int64))) - (1 : Int64))), .second, .val (.int (1 : Int32)), .val (.int (1 : Int32))] []) _
            refine go1 (fun _ => XS.iconst X16.here hx rfl (hb hby at_111)) ?_
            show Go p.tables e below T16 (mkF m 112 #[.val (.long p1), .second, .val (.int p2), .val (.int (p2 &&& (3 : Int32))), .val (.long (((2147483647 : Int64) + (p1 &&& (3 : Int64))) - (1 : Int64))), .second, .val (.int (1 : Int32)), .val (.int (1 : Int32))] [(.int (0 : Int32))]) _
            refine goR X16 (BodyLoose.notSynchronized Bd) (v := (some (.int (0 : Int32)))) (fun h => by rw [Bd.returns] at h; cases h) (Q0 Z p1 p2 h0 n0) (fun fs hr => retN X16 hx (t := .boolean) Bd.returns (by simp) (hb hby at_112) hr) (by decide) (by decide) ?_
            show Q0 Z p1 p2 h0 n0 _ T16.heap _
            rw [e16]
            exact ⟨(by rw [own_0, if_neg hc1, if_pos hc13, if_pos hc14, if_pos hc15, if_neg hc17]), N16⟩
        · skip
          refine go1 (fun _ => XS.ifYes X0.here hx rfl (pc0 := 82) (pc' := 94) rfl (hb hby at_82) rfl ((if0 _ _).trans (flt (mt (lw_gt _ _).mp hc15)).2.2.2) (by decide) (by decide)) ?_
          show Go p.tables e below s₁ (mkF m 94 #[.val (.long p1), .second, .val (.int p2), .val (.int (p2 &&& (3 : Int32))), .val (.long (((2147483647 : Int64) + (p1 &&& (3 : Int64))) - (1 : Int64))), .second, .val (.int (1 : Int32)), .unset] []) _
          refine go1 (fun _ => XS.iconst X0.here hx rfl (hb hby at_94)) ?_
          show Go p.tables e below s₁ (mkF m 95 #[.val (.long p1), .second, .val (.int p2), .val (.int (p2 &&& (3 : Int32))), .val (.long (((2147483647 : Int64) + (p1 &&& (3 : Int64))) - (1 : Int64))), .second, .val (.int (1 : Int32)), .unset] [(.int (0 : Int32))]) _
          refine go1 (fun _ => XS.istore X0.here hx rfl (hb hby at_95) rfl (l' := #[.val (.long p1), .second, .val (.int p2), .val (.int (p2 &&& (3 : Int32))), .val (.long (((2147483647 : Int64) + (p1 &&& (3 : Int64))) - (1 : Int64))), .second, .val (.int (1 : Int32)), .val (.int (0 : Int32))]) rfl) ?_
          show Go p.tables e below s₁ (mkF m 97 #[.val (.long p1), .second, .val (.int p2), .val (.int (p2 &&& (3 : Int32))), .val (.long (((2147483647 : Int64) + (p1 &&& (3 : Int64))) - (1 : Int64))), .second, .val (.int (1 : Int32)), .val (.int (0 : Int32))] []) _
          refine go1 (fun _ => XS.lload X0.here hx rfl (hb hby at_97) rfl) ?_
          show Go p.tables e below s₁ (mkF m 99 #[.val (.long p1), .second, .val (.int p2), .val (.int (p2 &&& (3 : Int32))), .val (.long (((2147483647 : Int64) + (p1 &&& (3 : Int64))) - (1 : Int64))), .second, .val (.int (1 : Int32)), .val (.int (0 : Int32))] [(.long (((2147483647 : Int64) + (p1 &&& (3 : Int64))) - (1 : Int64)))]) _
          obtain ⟨_, _, ⟨T18, L18, k18, n18⟩, -, X18, ⟨Lc18, hQ18, l18, y18, z18⟩, st18⟩ := Jvm.LawKit.callS X0 hx (y := (⟨"com/example/stubwright/stubwright/mapping/JavaTypes", "isChecked", "(J)Z"⟩ : MethodName)) hown (mvT hZ (hw _ (List.mem_of_getElem? (i := 1) rfl))) (mvT hZ (hw _ (List.mem_of_getElem? (i := 2) rfl))) (mvT hZ (hw _ (List.mem_of_getElem? (i := 3) rfl))) (mvT hZ (hw _ (List.mem_of_getElem? (i := 4) rfl))) (by decide) (backOf (W := 0) (rm1 l Z a0 hw [] (((2147483647 : Int64) + (p1 &&& (3 : Int64))) - (1 : Int64)) h0 n0 Z0 ) hZ (hw _ (List.mem_of_getElem? (i := 4) rfl)) (hw _ (List.mem_of_getElem? (i := 3) rfl)) (by decide) (by decide)) (g := (mkF m 99 #[.val (.long p1), .second, .val (.int p2), .val (.int (p2 &&& (3 : Int32))), .val (.long (((2147483647 : Int64) + (p1 &&& (3 : Int64))) - (1 : Int64))), .second, .val (.int (1 : Int32)), .val (.int (0 : Int32))] [(.long (((2147483647 : Int64) + (p1 &&& (3 : Int64))) - (1 : Int64)))])) rfl (by rw [hml]; rfl) (argsL := [(.long (((2147483647 : Int64) + (p1 &&& (3 : Int64))) - (1 : Int64)))]) (rest := []) (lenOf pd0_0 rfl) rfl (by show 2 * 0 + _ ≤ _; exact Nat.le_of_eq rfl) (hb hby at_99) (fun _ _ => ⟨rfl, e0, (by decide : 0 + 0 ≤ _), (by decide : 0 + 0 ≤ _)⟩)
          dsimp only [Pt.U, Pt.locs, Pt.cells, Pt.slots] at X18 l18 y18 z18 st18 hQ18
          subst l18 y18 z18
          obtain ⟨rfl, N18q, e18⟩ := hQ18
          have N18 := Fr.app N0 N18q
          refine go1 st18 ?_
          show Go p.tables e below T18 (mkF m 102 #[.val (.long p1), .second, .val (.int p2), .val (.int (p2 &&& (3 : Int32))), .val (.long (((2147483647 : Int64) + (p1 &&& (3 : Int64))) - (1 : Int64))), .second, .val (.int (1 : Int32)), .val (.int (0 : Int32))] [(.int (own_1 (((2147483647 : Int64) + (p1 &&& (3 : Int64))) - (1 : Int64))))]) _
          refine go1 (fun _ => XS.iload X18.here hx rfl (hb hby at_102) rfl) ?_
          show Go p.tables e below T18 (mkF m 104 #[.val (.long p1), .second, .val (.int p2), .val (.int (p2 &&& (3 : Int32))), .val (.long (((2147483647 : Int64) + (p1 &&& (3 : Int64))) - (1 : Int64))), .second, .val (.int (1 : Int32)), .val (.int (0 : Int32))] [(.int (0 : Int32)), (.int (own_1 (((2147483647 : Int64) + (p1 &&& (3 : Int64))) - (1 : Int64))))]) _
          by_cases hc19 : (own_1 (((2147483647 : Int64) + (p1 &&& (3 : Int64))) - (1 : Int64))) = (0 : Int32)
          · skip
            refine go1 (fun _ => XS.icmpNo X18.here hx rfl (hb hby at_104) rfl (teq hc19).2) ?_
            show Go p.tables e below T18 (mkF m 107 #[.val (.long p1), .second, .val (.int p2), .val (.int (p2 &&& (3 : Int32))), .val (.long (((2147483647 : Int64) + (p1 &&& (3 : Int64))) - (1 : Int64))), .second, .val (.int (1 : Int32)), .val (.int (0 : Int32))] []) _
            refine go1 (fun _ => XS.iconst X18.here hx rfl (hb hby at_107)) ?_
            show Go p.tables e below T18 (mkF m 108 #[.val (.long p1), .second, .val (.int p2), .val (.int (p2 &&& (3 : Int32))), .val (.long (((2147483647 : Int64) + (p1 &&& (3 : Int64))) - (1 : Int64))), .second, .val (.int (1 : Int32)), .val (.int (0 : Int32))] [(.int (1 : Int32))]) _
            refine go1 (fun _ => XS.goto X18.here hx rfl (pc0 := 108) (pc' := 112) rfl (hb hby at_108) (by decide) (by decide)) ?_
            show Go p.tables e below T18 (mkF m 112 #[.val (.long p1), .second, .val (.int p2), .val (.int (p2 &&& (3 : Int32))), .val (.long (((2147483647 : Int64) + (p1 &&& (3 : Int64))) - (1 : Int64))), .second, .val (.int (1 : Int32)), .val (.int (0 : Int32))] [(.int (1 : Int32))]) _
            refine goR X18 (BodyLoose.notSynchronized Bd) (v := (some (.int (1 : Int32)))) (fun h => by rw [Bd.returns] at h; cases h) (Q0 Z p1 p2 h0 n0) (fun fs hr => retN X18 hx (t := .boolean) Bd.returns (by simp) (hb hby at_112) hr) (by decide) (by decide) ?_
            show Q0 Z p1 p2 h0 n0 _ T18.heap _
            rw [e18]
            exact ⟨(by rw [own_0, if_neg hc1, if_pos hc13, if_pos hc14, if_neg hc15, if_pos hc19]), N18⟩
          · skip
            refine go1 (fun _ => XS.icmpYes X18.here hx rfl (pc0 := 104) (pc' := 111) rfl (hb hby at_104) rfl (feq hc19).2 (by decide) (by decide)) ?_
            show Go p.tables e below T18 (mkF m 111 #[.val (.long p1), .second, .val (.int p2), .val (.int (p2 &&& (3 : Int32))), .val (.long (((2147483647 : Int64) + (p1 &&& (3 : Int64))) - (1 : Int64))), .second, .val (.int (1 : Int32)), .val (.int (0 : Int32))] []) _
            refine go1 (fun _ => XS.iconst X18.here hx rfl (hb hby at_111)) ?_
            show Go p.tables e below T18 (mkF m 112 #[.val (.long p1), .second, .val (.int p2), .val (.int (p2 &&& (3 : Int32))), .val (.long (((2147483647 : Int64) + (p1 &&& (3 : Int64))) - (1 : Int64))), .second, .val (.int (1 : Int32)), .val (.int (0 : Int32))] [(.int (0 : Int32))]) _
            refine goR X18 (BodyLoose.notSynchronized Bd) (v := (some (.int (0 : Int32)))) (fun h => by rw [Bd.returns] at h; cases h) (Q0 Z p1 p2 h0 n0) (fun fs hr => retN X18 hx (t := .boolean) Bd.returns (by simp) (hb hby at_112) hr) (by decide) (by decide) ?_
            show Q0 Z p1 p2 h0 n0 _ T18.heap _
            rw [e18]
            exact ⟨(by rw [own_0, if_neg hc1, if_pos hc13, if_pos hc14, if_neg hc15, if_neg hc19]), N18⟩
      · skip
        refine go1 (fun _ => XS.ifYes X0.here hx rfl (pc0 := 68) (pc' := 75) rfl (hb hby at_68) rfl ((if0 _ _).trans (feq (mt (lw_eq _ _).mp hc14)).2) (by decide) (by decide)) ?_
        show Go p.tables e below s₁ (mkF m 75 #[.val (.long p1), .second, .val (.int p2), .val (.int (p2 &&& (3 : Int32))), .val (.long (((2147483647 : Int64) + (p1 &&& (3 : Int64))) - (1 : Int64))), .second, .unset, .unset] []) _
        refine go1 (fun _ => XS.iconst X0.here hx rfl (hb hby at_75)) ?_
        show Go p.tables e below s₁ (mkF m 76 #[.val (.long p1), .second, .val (.int p2), .val (.int (p2 &&& (3 : Int32))), .val (.long (((2147483647 : Int64) + (p1 &&& (3 : Int64))) - (1 : Int64))), .second, .unset, .unset] [(.int (0 : Int32))]) _
        refine go1 (fun _ => XS.istore X0.here hx rfl (hb hby at_76) rfl (l' := #[.val (.long p1), .second, .val (.int p2), .val (.int (p2 &&& (3 : Int32))), .val (.long (((2147483647 : Int64) + (p1 &&& (3 : Int64))) - (1 : Int64))), .second, .val (.int (0 : Int32)), .unset]) rfl) ?_
        show Go p.tables e below s₁ (mkF m 78 #[.val (.long p1), .second, .val (.int p2), .val (.int (p2 &&& (3 : Int32))), .val (.long (((2147483647 : Int64) + (p1 &&& (3 : Int64))) - (1 : Int64))), .second, .val (.int (0 : Int32)), .unset] []) _
        refine go1 (fun _ => XS.lload X0.here hx rfl (hb hby at_78) rfl) ?_
        show Go p.tables e below s₁ (mkF m 80 #[.val (.long p1), .second, .val (.int p2), .val (.int (p2 &&& (3 : Int32))), .val (.long (((2147483647 : Int64) + (p1 &&& (3 : Int64))) - (1 : Int64))), .second, .val (.int (0 : Int32)), .unset] [(.long (((2147483647 : Int64) + (p1 &&& (3 : Int64))) - (1 : Int64)))]) _
        refine go1 (fun _ => XS.lconst X0.here hx rfl (hb hby at_80)) ?_
        show Go p.tables e below s₁ (mkF m 81 #[.val (.long p1), .second, .val (.int p2), .val (.int (p2 &&& (3 : Int32))), .val (.long (((2147483647 : Int64) + (p1 &&& (3 : Int64))) - (1 : Int64))), .second, .val (.int (0 : Int32)), .unset] [(.long (0 : Int64)), (.long (((2147483647 : Int64) + (p1 &&& (3 : Int64))) - (1 : Int64)))]) _
        refine go1 (fun _ => XS.lcmp X0.here hx rfl (hb hby at_81) rfl) ?_
        show Go p.tables e below s₁ (mkF m 82 #[.val (.long p1), .second, .val (.int p2), .val (.int (p2 &&& (3 : Int32))), .val (.long (((2147483647 : Int64) + (p1 &&& (3 : Int64))) - (1 : Int64))), .second, .val (.int (0 : Int32)), .unset] [(.int (lcmpW (((2147483647 : Int64) + (p1 &&& (3 : Int64))) - (1 : Int64)) (0 : Int64)))]) _
        by_cases hc20 : (0 : Int64) < (((2147483647 : Int64) + (p1 &&& (3 : Int64))) - (1 : Int64))
        · skip
          refine go1 (fun _ => XS.ifNo X0.here hx rfl (hb hby at_82) rfl ((if0 _ _).trans (tlt ((lw_gt _ _).mpr hc20)).2.2.2)) ?_
          show Go p.tables e below s₁ (mkF m 85 #[.val (.long p1), .second, .val (.int p2), .val (.int (p2 &&& (3 : Int32))), .val (.long (((2147483647 : Int64) + (p1 &&& (3 : Int64))) - (1 : Int64))), .second, .val (.int (0 : Int32)), .unset] []) _
          refine go1 (fun _ => XS.iload X0.here hx rfl (hb hby at_85) rfl) ?_
          show Go p.tables e below s₁ (mkF m 87 #[.val (.long p1), .second, .val (.int p2), .val (.int (p2 &&& (3 : Int32))), .val (.long (((2147483647 : Int64) + (p1 &&& (3 : Int64))) - (1 : Int64))), .second, .val (.int (0 : Int32)), .unset] [(.int (0 : Int32))]) _
          refine go1 (fun _ => XS.ifYes X0.here hx rfl (pc0 := 87) (pc' := 94) rfl (hb hby at_87) rfl ((if0 _ _).trans (teq (by decide : (0 : Int32) = (0 : Int32))).1) (by decide) (by decide)) ?_
          show Go p.tables e below s₁ (mkF m 94 #[.val (.long p1), .second, .val (.int p2), .val (.int (p2 &&& (3 : Int32))), .val (.long (((2147483647 : Int64) + (p1 &&& (3 : Int64))) - (1 : Int64))), .second, .val (.int (0 : Int32)), .unset] []) _
          refine go1 (fun _ => XS.iconst X0.here hx rfl (hb hby at_94)) ?_
          show Go p.tables e below s₁ (mkF m 95 #[.val (.long p1), .second, .val (.int p2), .val (.int (p2 &&& (3 : Int32))), .val (.long (((2147483647 : Int64) + (p1 &&& (3 : Int64))) - (1 : Int64))), .second, .val (.int (0 : Int32)), .unset] [(.int (0 : Int32))]) _
          refine go1 (fun _ => XS.istore X0.here hx rfl (hb hby at_95) rfl (l' := #[.val (.long p1), .second, .val (.int p2), .val (.int (p2 &&& (3 : Int32))), .val (.long (((2147483647 : Int64) + (p1 &&& (3 : Int64))) - (1 : Int64))), .second, .val (.int (0 : Int32)), .val (.int (0 : Int32))]) rfl) ?_
          show Go p.tables e below s₁ (mkF m 97 #[.val (.long p1), .second, .val (.int p2), .val (.int (p2 &&& (3 : Int32))), .val (.long (((2147483647 : Int64) + (p1 &&& (3 : Int64))) - (1 : Int64))), .second, .val (.int (0 : Int32)), .val (.int (0 : Int32))] []) _
          refine go1 (fun _ => XS.lload X0.here hx rfl (hb hby at_97) rfl) ?_
          show Go p.tables e below s₁ (mkF m 99 #[.val (.long p1), .second, .val (.int p2), .val (.int (p2 &&& (3 : Int32))), .val (.long (((2147483647 : Int64) + (p1 &&& (3 : Int64))) - (1 : Int64))), .second, .val (.int (0 : Int32)), .val (.int (0 : Int32))] [(.long (((2147483647 : Int64) + (p1 &&& (3 : Int64))) - (1 : Int64)))]) _
          obtain ⟨_, _, ⟨T21, L21, k21, n21⟩, -, X21, ⟨Lc21, hQ21, l21, y21, z21⟩, st21⟩ := Jvm.LawKit.callS X0 hx (y := (⟨"com/example/stubwright/stubwright/mapping/JavaTypes", "isChecked", "(J)Z"⟩ : MethodName)) hown (mvT hZ (hw _ (List.mem_of_getElem? (i := 1) rfl))) (mvT hZ (hw _ (List.mem_of_getElem? (i := 2) rfl))) (mvT hZ (hw _ (List.mem_of_getElem? (i := 3) rfl))) (mvT hZ (hw _ (List.mem_of_getElem? (i := 4) rfl))) (by decide) (backOf (W := 0) (rm1 l Z a0 hw [] (((2147483647 : Int64) + (p1 &&& (3 : Int64))) - (1 : Int64)) h0 n0 Z0 ) hZ (hw _ (List.mem_of_getElem? (i := 4) rfl)) (hw _ (List.mem_of_getElem? (i := 3) rfl)) (by decide) (by decide)) (g := (mkF m 99 #[.val (.long p1), .second, .val (.int p2), .val (.int (p2 &&& (3 : Int32))), .val (.long (((2147483647 : Int64) + (p1 &&& (3 : Int64))) - (1 : Int64))), .second, .val (.int (0 : Int32)), .val (.int (0 : Int32))] [(.long (((2147483647 : Int64) + (p1 &&& (3 : Int64))) - (1 : Int64)))])) rfl (by rw [hml]; rfl) (argsL := [(.long (((2147483647 : Int64) + (p1 &&& (3 : Int64))) - (1 : Int64)))]) (rest := []) (lenOf pd0_0 rfl) rfl (by show 2 * 0 + _ ≤ _; exact Nat.le_of_eq rfl) (hb hby at_99) (fun _ _ => ⟨rfl, e0, (by decide : 0 + 0 ≤ _), (by decide : 0 + 0 ≤ _)⟩)
          dsimp only [Pt.U, Pt.locs, Pt.cells, Pt.slots] at X21 l21 y21 z21 st21 hQ21
          subst l21 y21 z21
          obtain ⟨rfl, N21q, e21⟩ := hQ21
          have N21 := Fr.app N0 N21q
          refine go1 st21 ?_
          show Go p.tables e below T21 (mkF m 102 #[.val (.long p1), .second, .val (.int p2), .val (.int (p2 &&& (3 : Int32))), .val (.long (((2147483647 : Int64) + (p1 &&& (3 : Int64))) - (1 : Int64))), .second, .val (.int (0 : Int32)), .val (.int (0 : Int32))] [(.int (own_1 (((2147483647 : Int64) + (p1 &&& (3 : Int64))) - (1 : Int64))))]) _
          refine go1 (fun _ => XS.iload X21.here hx rfl (hb hby at_102) rfl) ?_
          show Go p.tables e below T21 (mkF m 104 #[.val (.long p1), .second, .val (.int p2), .val (.int (p2 &&& (3 : Int32))), .val (.long (((2147483647 : Int64) + (p1 &&& (3 : Int64))) - (1 : Int64))), .second, .val (.int (0 : Int32)), .val (.int (0 : Int32))] [(.int (0 : Int32)), (.int (own_1 (((2147483647 : Int64) + (p1 &&& (3 : Int64))) - (1 : Int64))))]) _
          by_cases hc22 : (own_1 (((2147483647 : Int64) + (p1 &&& (3 : Int64))) - (1 : Int64))) = (0 : Int32)
          · skip
            refine go1 (fun _ => XS.icmpNo X21.here hx rfl (hb hby at_104) rfl (teq hc22).2) ?_
            show Go p.tables e below T21 (mkF m 107 #[.val (.long p1), .second, .val (.int p2), .val (.int (p2 &&& (3 : Int32))), .val (.long (((2147483647 : Int64) + (p1 &&& (3 : Int64))) - (1 : Int64))), .second, .val (.int (0 : Int32)), .val (.int (0 : Int32))] []) _
            refine go1 (fun _ => XS.iconst X21.here hx rfl (hb hby at_107)) ?_
            show Go p.tables e below T21 (mkF m 108 #[.val (.long p1), .second, .val (.int p2), .val (.int (p2 &&& (3 : Int32))), .val (.long (((2147483647 : Int64) + (p1 &&& (3 : Int64))) - (1 : Int64))), .second, .val (.int (0 : Int32)), .val (.int (0 : Int32))] [(.int (1 : Int32))]) _
            refine go1 (fun _ => XS.goto X21.here hx rfl (pc0 := 108) (pc' := 112) rfl (hb hby at_108) (by decide) (by decide)) ?_
            show Go p.tables e below T21 (mkF m 112 #[.val (.long p1), .second, .val (.int p2), .val (.int (p2 &&& (3 : Int32))), .val (.long (((2147483647 : Int64) + (p1 &&& (3 : Int64))) - (1 : Int64))), .second, .val (.int (0 : Int32)), .val (.int (0 : Int32))] [(.int (1 : Int32))]) _
            refine goR X21 (BodyLoose.notSynchronized Bd) (v := (some (.int (1 : Int32)))) (fun h => by rw [Bd.returns] at h; cases h) (Q0 Z p1 p2 h0 n0) (fun fs hr => retN X21 hx (t := .boolean) Bd.returns (by simp) (hb hby at_112) hr) (by decide) (by decide) ?_
            show Q0 Z p1 p2 h0 n0 _ T21.heap _
            rw [e21]
            exact ⟨(by rw [own_0, if_neg hc1, if_pos hc13, if_neg hc14, if_pos hc20, if_pos hc22]), N21⟩
          · skip
            refine go1 (fun _ => XS.icmpYes X21.here hx rfl (pc0 := 104) (pc' := 111) rfl (hb hby at_104) rfl (feq hc22).2 (by decide) (by decide)) ?_
            show Go p.tables e below T21 (mkF m 111 #[.val (.long p1), .second, .val (.int p2), .val (.int (p2 &&& (3 : Int32))), .val (.long (((2147483647 : Int64) + (p1 &&& (3 : Int64))) - (1 : Int64))), .second, .val (.int (0 : Int32)), .val (.int (0 : Int32))] []) _
            refine go1 (fun _ => XS.iconst X21.here hx rfl (hb hby at_111)) ?_
            show Go p.tables e below T21 (mkF m 112 #[.val (.long p1), .second, .val (.int p2), .val (.int (p2 &&& (3 : Int32))), .val (.long (((2147483647 : Int64) + (p1 &&& (3 : Int64))) - (1 : Int64))), .second, .val (.int (0 : Int32)), .val (.int (0 : Int32))] [(.int (0 : Int32))]) _
            refine goR X21 (BodyLoose.notSynchronized Bd) (v := (some (.int (0 : Int32)))) (fun h => by rw [Bd.returns] at h; cases h) (Q0 Z p1 p2 h0 n0) (fun fs hr => retN X21 hx (t := .boolean) Bd.returns (by simp) (hb hby at_112) hr) (by decide) (by decide) ?_
            show Q0 Z p1 p2 h0 n0 _ T21.heap _
            rw [e21]
            exact ⟨(by rw [own_0, if_neg hc1, if_pos hc13, if_neg hc14, if_pos hc20, if_neg hc22]), N21⟩
        · skip
          refine go1 (fun _ => XS.ifYes X0.here hx rfl (pc0 := 82) (pc' := 94) rfl (hb hby at_82) rfl ((if0 _ _).trans (flt (mt (lw_gt _ _).mp hc20)).2.2.2) (by decide) (by decide)) ?_
          show Go p.tables e below s₁ (mkF m 94 #[.val (.long p1), .second, .val (.int p2), .val (.int (p2 &&& (3 : Int32))), .val (.long (((2147483647 : Int64) + (p1 &&& (3 : Int64))) - (1 : Int64))), .second, .val (.int (0 : Int32)), .unset] []) _
          refine go1 (fun _ => XS.iconst X0.here hx rfl (hb hby at_94)) ?_
          show Go p.tables e below s₁ (mkF m 95 #[.val (.long p1), .second, .val (.int p2), .val (.int (p2 &&& (3 : Int32))), .val (.long (((2147483647 : Int64) + (p1 &&& (3 : Int64))) - (1 : Int64))), .second, .val (.int (0 : Int32)), .unset] [(.int (0 : Int32))]) _
          refine go1 (fun _ => XS.istore X0.here hx rfl (hb hby at_95) rfl (l' := #[.val (.long p1), .second, .val (.int p2), .val (.int (p2 &&& (3 : Int32))), .val (.long (((2147483647 : Int64) + (p1 &&& (3 : Int64))) - (1 : Int64))), .second, .val (.int (0 : Int32)), .val (.int (0 : Int32))]) rfl) ?_
          show Go p.tables e below s₁ (mkF m 97 #[.val (.long p1), .second, .val (.int p2), .val (.int (p2 &&& (3 : Int32))), .val (.long (((2147483647 : Int64) + (p1 &&& (3 : Int64))) - (1 : Int64))), .second, .val (.int (0 : Int32)), .val (.int (0 : Int32))] []) _
          refine go1 (fun _ => XS.lload X0.here hx rfl (hb hby at_97) rfl) ?_
          show Go p.tables e below s₁ (mkF m 99 #[.val (.long p1), .second, .val (.int p2), .val (.int (p2 &&& (3 : Int32))), .val (.long (((2147483647 : Int64) + (p1 &&& (3 : Int64))) - (1 : Int64))), .second, .val (.int (0 : Int32)), .val (.int (0 : Int32))] [(.long (((2147483647 : Int64) + (p1 &&& (3 : Int64))) - (1 : Int64)))]) _
          obtain ⟨_, _, ⟨T23, L23, k23, n23⟩, -, X23, ⟨Lc23, hQ23, l23, y23, z23⟩, st23⟩ := Jvm.LawKit.callS X0 hx (y := (⟨"com/example/stubwright/stubwright/mapping/JavaTypes", "isChecked", "(J)Z"⟩ : MethodName)) hown (mvT hZ (hw _ (List.mem_of_getElem? (i := 1) rfl))) (mvT hZ (hw _ (List.mem_of_getElem? (i := 2) rfl))) (mvT hZ (hw _ (List.mem_of_getElem? (i := 3) rfl))) (mvT hZ (hw _ (List.mem_of_getElem? (i := 4) rfl))) (by decide) (backOf (W := 0) (rm1 l Z a0 hw [] (((2147483647 : Int64) + (p1 &&& (3 : Int64))) - (1 : Int64)) h0 n0 Z0 ) hZ (hw _ (List.mem_of_getElem? (i := 4) rfl)) (hw _ (List.mem_of_getElem? (i := 3) rfl)) (by decide) (by decide)) (g := (mkF m 99 #[.val (.long p1), .second, .val (.int p2), .val (.int (p2 &&& (3 : Int32))), .val (.long (((2147483647 : Int64) + (p1 &&& (3 : Int64))) - (1 : Int64))), .second, .val (.int (0 : Int32)), .val (.int (0 : Int32))] [(.long (((2147483647 : Int64) + (p1 &&& (3 : Int64))) - (1 : Int64)))])) rfl (by rw [hml]; rfl) (argsL := [(.long (((2147483647 : Int64) + (p1 &&& (3 : Int64))) - (1 : Int64)))]) (rest := []) (lenOf pd0_0 rfl) rfl (by show 2 * 0 + _ ≤ _; exact Nat.le_of_eq rfl) (hb hby at_99) (fun _ _ => ⟨rfl, e0, (by decide : 0 + 0 ≤ _), (by decide : 0 + 0 ≤ _)⟩)
          dsimp only [Pt.U, Pt.locs, Pt.cells, Pt.slots] at X23 l23 y23 z23 st23 hQ23
          subst l23 y23 z23
          obtain ⟨rfl, N23q, e23⟩ := hQ23
          have N23 := Fr.app N0 N23q
          refine go1 st23 ?_
          show Go p.tables e below T23 (mkF m 102 #[.val (.long p1), .second, .val (.int p2), .val (.int (p2 &&& (3 : Int32))), .val (.long (((2147483647 : Int64) + (p1 &&& (3 : Int64))) - (1 : Int64))), .second, .val (.int (0 : Int32)), .val (.int (0 : Int32))] [(.int (own_1 (((2147483647 : Int64) + (p1 &&& (3 : Int64))) - (1 : Int64))))]) _
          refine go1 (fun _ => XS.iload X23.here hx rfl (hb hby at_102) rfl) ?_
          show Go p.tables e below T23 (mkF m 104 #[.val (.long p1), .second, .val (.int p2), .val (.int (p2 &&& (3 : Int32))), .val (.long (((2147483647 : Int64) + (p1 &&& (3 : Int64))) - (1 : Int64))), .second, .val (.int (0 : Int32)), .val (.int (0 : Int32))] [(.int (0 : Int32)), (.int (own_1 (((2147483647 : Int64) + (p1 &&& (3 : Int64))) - (1 : Int64))))]) _
          by_cases hc24 : (own_1 (((2147483647 : Int64) + (p1 &&& (3 : Int64))) - (1 : Int64))) = (0 : Int32)
          · skip
            refine go1 (fun _ => XS.icmpNo X23.here hx rfl (hb hby at_104) rfl (teq hc24).2) ?_
            show Go p.tables e below T23 (mkF m 107 #[.val (.long p1), .second, .val (.int p2), .val (.int (p2 &&& (3 : Int32))), .val (.long (((2147483647 : Int64) + (p1 &&& (3 : Int64))) - (1 : Int64))), .second, .val (.int (0 : Int32)), .val (.int (0 : Int32))] []) _
            refine go1 (fun _ => XS.iconst X23.here hx rfl (hb hby at_107)) ?_
            show Go p.tables e below T23 (mkF m 108 #[.val (.long p1), .second, .val (.int p2), .val (.int (p2 &&& (3 : Int32))), .val (.long (((2147483647 : Int64) + (p1 &&& (3 : Int64))) - (1 : Int64))), .second, .val (.int (0 : Int32)), .val (.int (0 : Int32))] [(.int (1 : Int32))]) _
            refine go1 (fun _ => XS.goto X23.here hx rfl (pc0 := 108) (pc' := 112) rfl (hb hby at_108) (by decide) (by decide)) ?_
            show Go p.tables e below T23 (mkF m 112 #[.val (.long p1), .second, .val (.int p2), .val (.int (p2 &&& (3 : Int32))), .val (.long (((2147483647 : Int64) + (p1 &&& (3 : Int64))) - (1 : Int64))), .second, .val (.int (0 : Int32)), .val (.int (0 : Int32))] [(.int (1 : Int32))]) _
            refine goR X23 (BodyLoose.notSynchronized Bd) (v := (some (.int (1 : Int32)))) (fun h => by rw [Bd.returns] at h; cases h) (Q0 Z p1 p2 h0 n0) (fun fs hr => retN X23 hx (t := .boolean) Bd.returns (by simp) (hb hby at_112) hr) (by decide) (by decide) ?_
            show Q0 Z p1 p2 h0 n0 _ T23.heap _
            rw [e23]
            exact ⟨(by rw [own_0, if_neg hc1, if_pos hc13, if_neg hc14, if_neg hc20, if_pos hc24]), N23⟩
          · skip
            refine go1 (fun _ => XS.icmpYes X23.here hx rfl (pc0 := 104) (pc' := 111) rfl (hb hby at_104) rfl (feq hc24).2 (by decide) (by decide)) ?_
            show Go p.tables e below T23 (mkF m 111 #[.val (.long p1), .second, .val (.int p2), .val (.int (p2 &&& (3 : Int32))), .val (.long (((2147483647 : Int64) + (p1 &&& (3 : Int64))) - (1 : Int64))), .second, .val (.int (0 : Int32)), .val (.int (0 : Int32))] []) _
            refine go1 (fun _ => XS.iconst X23.here hx rfl (hb hby at_111)) ?_
            show Go p.tables e below T23 (mkF m 112 #[.val (.long p1), .second, .val (.int p2), .val (.int (p2 &&& (3 : Int32))), .val (.long (((2147483647 : Int64) + (p1 &&& (3 : Int64))) - (1 : Int64))), .second, .val (.int (0 : Int32)), .val (.int (0 : Int32))] [(.int (0 : Int32))]) _
            refine goR X23 (BodyLoose.notSynchronized Bd) (v := (some (.int (0 : Int32)))) (fun h => by rw [Bd.returns] at h; cases h) (Q0 Z p1 p2 h0 n0) (fun fs hr => retN X23 hx (t := .boolean) Bd.returns (by simp) (hb hby at_112) hr) (by decide) (by decide) ?_
            show Q0 Z p1 p2 h0 n0 _ T23.heap _
            rw [e23]
            exact ⟨(by rw [own_0, if_neg hc1, if_pos hc13, if_neg hc14, if_neg hc20, if_neg hc24]), N23⟩
    · skip
      refine go1 (fun _ => XS.icmpYes X0.here hx rfl (pc0 := 16) (pc' := 35) rfl (hb hby at_16) rfl (feq hc13).2 (by decide) (by decide)) ?_
      show Go p.tables e below s₁ (mkF m 35 #[.val (.long p1), .second, .val (.int p2), .val (.int (p2 &&& (3 : Int32))), .unset, .unset, .unset, .unset] []) _
      refine go1 (fun _ => XS.iloadN X0.here hx rfl (hb hby at_35) rfl) ?_
      show Go p.tables e below s₁ (mkF m 36 #[.val (.long p1), .second, .val (.int p2), .val (.int (p2 &&& (3 : Int32))), .unset, .unset, .unset, .unset] [(.int (p2 &&& (3 : Int32)))]) _
      refine go1 (fun _ => XS.iconst X0.here hx rfl (hb hby at_36)) ?_
      show Go p.tables e below s₁ (mkF m 37 #[.val (.long p1), .second, .val (.int p2), .val (.int (p2 &&& (3 : Int32))), .unset, .unset, .unset, .unset] [(.int (2 : Int32)), (.int (p2 &&& (3 : Int32)))]) _
      by_cases hc25 : (p2 &&& (3 : Int32)) = (2 : Int32)
      · skip
        refine go1 (fun _ => XS.icmpNo X0.here hx rfl (hb hby at_37) rfl (teq hc25).2) ?_
        show Go p.tables e below s₁ (mkF m 40 #[.val (.long p1), .second, .val (.int p2), .val (.int (p2 &&& (3 : Int32))), .unset, .unset, .unset, .unset] []) _
        refine go1 (fun _ => XS.lloadN X0.here hx rfl (hb hby at_40) rfl) ?_
        show Go p.tables e below s₁ (mkF m 41 #[.val (.long p1), .second, .val (.int p2), .val (.int (p2 &&& (3 : Int32))), .unset, .unset, .unset, .unset] [(.long p1)]) _
        refine go1 (X0.ldc2Long hx hown (mvT hZ (hw _ (List.mem_of_getElem? (i := 0) rfl))) (g := (mkF m 41 #[.val (.long p1), .second, .val (.int p2), .val (.int (p2 &&& (3 : Int32))), .unset, .unset, .unset, .unset] [(.long p1)])) rfl (hb hby at_41)) ?_
        show Go p.tables e below s₁ (mkF m 44 #[.val (.long p1), .second, .val (.int p2), .val (.int (p2 &&& (3 : Int32))), .unset, .unset, .unset, .unset] [(.long (3 : Int64)), (.long p1)]) _
        refine go1 (fun _ => XS.land X0.here hx rfl (hb hby at_44) rfl) ?_
        show Go p.tables e below s₁ (mkF m 45 #[.val (.long p1), .second, .val (.int p2), .val (.int (p2 &&& (3 : Int32))), .unset, .unset, .unset, .unset] [(.long (p1 &&& (3 : Int64)))]) _
        refine go1 (fun _ => XS.lconst X0.here hx rfl (hb hby at_45)) ?_
        show Go p.tables e below s₁ (mkF m 46 #[.val (.long p1), .second, .val (.int p2), .val (.int (p2 &&& (3 : Int32))), .unset, .unset, .unset, .unset] [(.long (1 : Int64)), (.long (p1 &&& (3 : Int64)))]) _
        refine go1 (fun _ => XS.lsub X0.here hx rfl (hb hby at_46) rfl) ?_
        show Go p.tables e below s₁ (mkF m 47 #[.val (.long p1), .second, .val (.int p2), .val (.int (p2 &&& (3 : Int32))), .unset, .unset, .unset, .unset] [(.long ((p1 &&& (3 : Int64)) - (1 : Int64)))]) _
        refine go1 (fun _ => XS.lstore X0.here hx rfl (hb hby at_47) rfl (l' := #[.val (.long p1), .second, .val (.int p2), .val (.int (p2 &&& (3 : Int32))), .val (.long ((p1 &&& (3 : Int64)) - (1 : Int64))), .second, .unset, .unset]) rfl) ?_
        show Go p.tables e below s₁ (mkF m 49 #[.val (.long p1), .second, .val (.int p2), .val (.int (p2 &&& (3 : Int32))), .val (.long ((p1 &&& (3 : Int64)) - (1 : Int64))), .second, .unset, .unset] []) _
        refine go1 (fun _ => XS.goto X0.here hx rfl (pc0 := 49) (pc' := 61) rfl (hb hby at_49) (by decide) (by decide)) ?_
        show Go p.tables e below s₁ (mkF m 61 #[.val (.long p1), .second, .val (.int p2), .val (.int (p2 &&& (3 : Int32))), .val (.long ((p1 &&& (3 : Int64)) - (1 : Int64))), .second, .unset, .unset] []) _
        refine go1 (fun _ => XS.lload X0.here hx rfl (hb hby at_61) rfl) ?_
        show Go p.tables e below s₁ (mkF m 63 #[.val (.long p1), .second, .val (.int p2), .val (.int (p2 &&& (3 : Int32))), .val (.long ((p1 &&& (3 : Int64)) - (1 : Int64))), .second, .unset, .unset] [(.long ((p1 &&& (3 : Int64)) - (1 : Int64)))]) _
        refine go1 (fun _ => XS.l2i X0.here hx rfl (hb hby at_63) rfl) ?_
        show Go p.tables e below s₁ (mkF m 64 #[.val (.long p1), .second, .val (.int p2), .val (.int (p2 &&& (3 : Int32))), .val (.long ((p1 &&& (3 : Int64)) - (1 : Int64))), .second, .unset, .unset] [(.int (((p1 &&& (3 : Int64)) - (1 : Int64)).toInt32))]) _
        refine go1 (fun _ => XS.i2l X0.here hx rfl (hb hby at_64) rfl) ?_
        show Go p.tables e below s₁ (mkF m 65 #[.val (.long p1), .second, .val (.int p2), .val (.int (p2 &&& (3 : Int32))), .val (.long ((p1 &&& (3 : Int64)) - (1 : Int64))), .second, .unset, .unset] [(.long ((((p1 &&& (3 : Int64)) - (1 : Int64)).toInt32).toInt64))]) _
        refine go1 (fun _ => XS.lload X0.here hx rfl (hb hby at_65) rfl) ?_
        show Go p.tables e below s₁ (mkF m 67 #[.val (.long p1), .second, .val (.int p2), .val (.int (p2 &&& (3 : Int32))), .val (.long ((p1 &&& (3 : Int64)) - (1 : Int64))), .second, .unset, .unset] [(.long ((p1 &&& (3 : Int64)) - (1 : Int64))), (.long ((((p1 &&& (3 : Int64)) - (1 : Int64)).toInt32).toInt64))]) _
        refine go1 (fun _ => XS.lcmp X0.here hx rfl (hb hby at_67) rfl) ?_
        show Go p.tables e below s₁ (mkF m 68 #[.val (.long p1), .second, .val (.int p2), .val (.int (p2 &&& (3 : Int32))), .val (.long ((p1 &&& (3 : Int64)) - (1 : Int64))), .second, .unset, .unset] [(.int (lcmpW ((((p1 &&& (3 : Int64)) - (1 : Int64)).toInt32).toInt64) ((p1 &&& (3 : Int64)) - (1 : Int64))))]) _
        by_cases hc26 : ((((p1 &&& (3 : Int64)) - (1 : Int64)).toInt32).toInt64) = ((p1 &&& (3 : Int64)) - (1 : Int64))
        · skip
          refine go1 (fun _ => XS.ifNo X0.here hx rfl (hb hby at_68) rfl ((if0 _ _).trans (teq ((lw_eq _ _).mpr hc26)).2)) ?_
          show Go p.tables e below s₁ (mkF m 71 #[.val (.long p1), .second, .val (.int p2), .val (.int (p2 &&& (3 : Int32))), .val (.long ((p1 &&& (3 : Int64)) - (1 : Int64))), .second, .unset, .unset] []) _
          refine go1 (fun _ => XS.iconst X0.here hx rfl (hb hby at_71)) ?_
          show Go p.tables e below s₁ (mkF m 72 #[.val (.long p1), .second, .val (.int p2), .val (.int (p2 &&& (3 : Int32))), .val (.long ((p1 &&& (3 : Int64)) - (1 : Int64))), .second, .unset, .unset] [(.int (1 : Int32))]) _
          refine go1 (fun _ => XS.goto X0.here hx rfl (pc0 := 72) (pc' := 76) rfl (hb hby at_72) (by decide) (by decide)) ?_
          show Go p.tables e below s₁ (mkF m 76 #[.val (.long p1), .second, .val (.int p2), .val (.int (p2 &&& (3 : Int32))), .val (.long ((p1 &&& (3 : Int64)) - (1 : Int64))), .second, .unset, .unset] [(.int (1 : Int32))]) _
          refine go1 (fun _ => XS.istore X0.here hx rfl (hb hby at_76) rfl (l' := #[.val (.long p1), .second, .val (.int p2), .val (.int (p2 &&& (3 : Int32))), .val (.long ((p1 &&& (3 : Int64)) - (1 : Int64))), .second, .val (.int (1 : Int32)), .unset]) rfl) ?_
          show Go p.tables e below s₁ (mkF m 78 #[.val (.long p1), .second, .val (.int p2), .val (.int (p2 &&& (3 : Int32))), .val (.long ((p1 &&& (3 : Int64)) - (1 : Int64))), .second, .val (.int (1 : Int32)), .unset] []) _
          refine go1 (fun _ => XS.lload X0.here hx rfl (hb hby at_78) rfl) ?_
          show Go p.tables e below s₁ (mkF m 80 #[.val (.long p1), .second, .val (.int p2), .val (.int (p2 &&& (3 : Int32))), .val (.long ((p1 &&& (3 : Int64)) - (1 : Int64))), .second, .val (.int (1 : Int32)), .unset] [(.long ((p1 &&& (3 : Int64)) - (1 : Int64)))]) _
          refine go1 (fun _ => XS.lconst X0.here hx rfl (hb hby at_80)) ?_
          show Go p.tables e below s₁ (mkF m 81 #[.val (.long p1), .second, .val (.int p2), .val (.int (p2 &&& (3 : Int32))), .val (.long ((p1 &&& (3 : Int64)) - (1 : Int64))), .second, .val (.int (1 : Int32)), .unset] [(.long (0 : Int64)), (.long ((p1 &&& (3 : Int64)) - (1 : Int64)))]) _
          refine go1 (fun _ => XS.lcmp X0.here hx rfl (hb hby at_81) rfl) ?_
          show Go p.tables e below s₁ (mkF m 82 #[.val (.long p1), .second, .val (.int p2), .val (.int (p2 &&& (3 : Int32))), .val (.long ((p1 &&& (3 : Int64)) - (1 : Int64))), .second, .val (.int (1 : Int32)), .unset] [(.int (lcmpW ((p1 &&& (3 : Int64)) - (1 : Int64)) (0 : Int64)))]) _
          by_cases hc27 : (0 : Int64) < ((p1 &&& (3 : Int64)) - (1 : Int64))
          · skip
            refine go1 (fun _ => XS.ifNo X0.here hx rfl (hb hby at_82) rfl ((if0 _ _).trans (tlt ((lw_gt _ _).mpr hc27)).2.2.2)) ?_
            show Go p.tables e below s₁ (mkF m 85 #[.val (.long p1), .second, .val (.int p2), .val (.int (p2 &&& (3 : Int32))), .val (.long ((p1 &&& (3 : Int64)) - (1 : Int64))), .second, .val (.int (1 : Int32)), .unset] []) _
            refine go1 (fun _ => XS.iload X0.here hx rfl (hb hby at_85) rfl) ?_
            show Go p.tables e below s₁ (mkF m 87 #[.val (.long p1), .second, .val (.int p2), .val (.int (p2 &&& (3 : Int32))), .val (.long ((p1 &&& (3 : Int64)) - (1 : Int64))), .second, .val (.int (1 : Int32)), .unset] [(.int (1 : Int32))]) _
            refine go1 (fun _ => XS.ifNo X0.here hx rfl (hb hby at_87) rfl ((if0 _ _).trans (feq (by decide : ¬ ((1 : Int32) = (0 : Int32)))).1)) ?_
            show Go p.tables e below s₁ (mkF m 90 #[.val (.long p1), .second, .val (.int p2), .val (.int (p2 &&& (3 : Int32))), .val (.long ((p1 &&& (3 : Int64)) - (1 : Int64))), .second, .val (.int (1 : Int32)), .unset] []) _
            refine go1 (fun _ => XS.iconst X0.here hx rfl (hb hby at_90)) ?_
            show Go p.tables e below s₁ (mkF m 91 #[.val (.long p1), .second, .val (.int p2), .val (.int (p2 &&& (3 : Int32))), .val (.long ((p1 &&& (3 : Int64)) - (1 : Int64))), .second, .val (.int (1 : Int32)), .unset] [(.int (1 : Int32))]) _
            refine go1 (fun _ => XS.goto X0.here hx rfl (pc0 := 91) (pc' := 95) rfl (hb hby at_91) (by decide) (by decide)) ?_
            show Go p.tables e below s₁ (mkF m 95 #[.val (.long p1), .second, .val (.int p2), .val (.int (p2 &&& (3 : Int32))), .val (.long ((p1 &&& (3 : Int64)) - (1 : Int64))), .second, .val (.int (1 : Int32)), .unset] [(.int (1 : Int32))]) _
            refine go1 (fun _ => XS.istore X0.here hx rfl (hb hby at_95) rfl (l' := #[.val (.long p1), .second, .val (.int p2), .val (.int (p2 &&& (3 : Int32))), .val (.long ((p1 &&& (3 : Int64)) - (1 : Int64))), .second, .val (.int (1 : Int32)), .val (.int (1 : Int32))]) rfl) ?_
            show Go p.tables e below s₁ (mkF m 97 #[.val (.long p1), .second, .val (.int p2), .val (.int (p2 &&& (3 : Int32))), .val (.long ((p1 &&& (3 : Int64)) - (1 : Int64))), .second, .val (.int (1 : Int32)), .val (.int (1 : Int32))] []) _
            refine go1 (fun _ => XS.lload X0.here hx rfl (hb hby at_97) rfl) ?_
            show Go p.tables e below s₁ (mkF m 99 #[.val (.long p1), .second, .val (.int p2), .val (.int (p2 &&& (3 : Int32))), .val (.long ((p1 &&& (3 : Int64)) - (1 : Int64))), .second, .val (.int (1 : Int32)), .val (.int (1 : Int32))] [(.long ((p1 &&& (3 : Int64)) - (1 : Int64)))]) _
            obtain ⟨_, _, ⟨T28, L28, k28, n28⟩, -, X28, ⟨Lc28, hQ28, l28, y28, z28⟩, st28⟩ := Jvm.LawKit.callS X0 hx (y := (⟨"com/example/stubwright/stubwright/mapping/JavaTypes", "isChecked", "(J)Z"⟩ : MethodName)) hown (mvT hZ (hw _ (List.mem_of_getElem? (i := 1) rfl))) (mvT hZ (hw _ (List.mem_of_getElem? (i := 2) rfl))) (mvT hZ (hw _ (List.mem_of_getElem? (i := 3) rfl))) (mvT hZ (hw _ (List.mem_of_getElem? (i := 4) rfl))) (by decide) (backOf (W := 0) (rm1 l Z a0 hw [] ((p1 &&& (3 : Int64)) - (1 : Int64)) h0 n0 Z0 ) hZ (hw _ (List.mem_of_getElem? (i := 4) rfl)) (hw _ (List.mem_of_getElem? (i := 3) rfl)) (by decide) (by decide)) (g := (mkF m 99 #[.val (.long p1), .second, .val (.int p2), .val (.int (p2 &&& (3 : Int32))), .val (.long ((p1 &&& (3 : Int64)) - (1 : Int64))), .second, .val (.int (1 : Int32)), .val (.int (1 : Int32))] [(.long ((p1 &&& (3 : Int64)) - (1 : Int64)))])) rfl (by rw [hml]; rfl) (argsL := [(.long ((p1 &&& (3 : Int64)) - (1 : Int64)))]) (rest := []) (lenOf pd0_0 rfl) rfl (by show 2 * 0 + _ ≤ _; exact Nat.le_of_eq rfl) (hb hby at_99) (fun _ _ => ⟨rfl, e0, (by decide : 0 + 0 ≤ _), (by decide : 0 + 0 ≤ _)⟩)
            dsimp only [Pt.U, Pt.locs, Pt.cells, Pt.slots] at X28 l28 y28 z28 st28 hQ28
            subst l28 y28 z28
            obtain ⟨rfl, N28q, e28⟩ := hQ28
            have N28 := Fr.app N0 N28q
            refine go1 st28 ?_
            show Go p.tables e below T28 (mkF m 102 #[.val (.long p1), .second, .val (.int p2), .val (.int (p2 &&& (3 : Int32))), .val (.long ((p1 &&& (3 : Int64)) - (1 : Int64))), .second, .val (.int (1 : Int32)), .val (.int (1 : Int32))] [(.int (own_1 ((p1 &&& (3 : Int64)) - (1 : Int64))))]) _
            refine go1 (fun _ => XS.iload X28.here hx rfl (hb hby at_102) rfl) ?_
            show Go p.tables e below T28 (mkF m 104 #[.val (.long p1), .second, .val (.int p2), .val (.int (p2 &&& (3 : Int32))), .val (.long ((p1 &&& (3 : Int64)) - (1 : Int64))), .second, .val (.int (1 : Int32)), .val (.int (1 : Int32))] [(.int (1 : Int32)), (.int (own_1 ((p1 &&& (3 : Int64)) - (1 : Int64))))]) _
            by_cases hc29 : (own_1 ((p1 &&& (3 : Int64)) - (1 : Int64))) = (1 : Int32)
            · skip
              refine go1 (fun _ => XS.icmpNo X28.here hx rfl (hb hby at_104) rfl (teq hc29).2) ?_
              show Go p.tables e below T28 (mkF m 107 #[.val (.long p1), .second, .val (.int p2), .val (.int (p2 &&& (3 : Int32))), .val (.long ((p1 &&& (3 : Int64)) - (1 : Int64))), .second, .val (.int (1 : Int32)), .val (.int (1 : Int32))] []) _
              refine go1 (fun _ => XS.iconst X28.here hx rfl (hb hby at_107)) ?_
              show Go p.tables e below T28 (mkF m 108 #[.val (.long p1), .second, .val (.int p2), .val (.int (p2 &&& (3 : Int32))), .val (.long ((p1 &&& (3 : Int64)) - (1 : Int64))), .second, .val (.int (1 : Int32)), .val (.int (1 : Int32))] [(.int (1 : Int32))]) _
              refine go1 (fun _ => XS.goto X28.here hx rfl (pc0 := 108) (pc' := 112) rfl (hb hby at_108) (by decide) (by decide)) ?_
              show Go p.tables e below T28 (mkF m 112 #[.val (.long p1), .second, .val (.int p2), .val (.int (p2 &&& (3 : Int32))), .val (.long ((p1 &&& (3 : Int64)) - (1 : Int64))), .second, .val (.int (1 : Int32)), .val (.int (1 : Int32))] [(.int (1 : Int32))]) _
              refine goR X28 (BodyLoose.notSynchronized Bd) (v := (some (.int (1 : Int32)))) (fun h => by rw [Bd.returns] at h; cases h) (Q0 Z p1 p2 h0 n0) (fun fs hr => retN X28 hx (t := .boolean) Bd.returns (by simp) (hb hby at_112) hr) (by decide) (by decide) ?_
              show Q0 Z p1 p2 h0 n0 _ T28.heap _
              rw [e28]
              exact ⟨(by rw [own_0, if_neg hc1, if_neg hc13, if_pos hc25, if_pos hc26, if_pos hc27, if_pos hc29]), N28⟩
            · skip
              refine go1 (fun _ => XS.icmpYes X28.here hx rfl (pc0 := 104) (pc' := 111) rfl (hb hby at_104) rfl (feq hc29).2 (by decide) (by decide)) ?_
              show Go p.tables e below T28 (mkF m 111 #[.val (.long p1), .second, .val (.int p2), .val (.int (p2 &&& (3 : Int32))), .val (.long ((p1 &&& (3 : Int64)) - (1 : Int64))), .second, .val (.int (1 : Int32)), .val (.int (1 : Int32))] []) _
              refine go1 (fun _ => XS.iconst X28.here hx rfl (hb hby at_111)) ?_
              show Go p.tables e below T28 (mkF m 112 #[.val (.long p1), .second, .val (.int p2), .val (.int (p2 &&& (3 : Int32))), .val (.long ((p1 &&& (3 : Int64)) - (1 : Int64))), .second, .val (.int (1 : Int32)), .val (.int (1 : Int32))] [(.int (0 : Int32))]) _
              refine goR X28 (BodyLoose.notSynchronized Bd) (v := (some (.int (0 : Int32)))) (fun h => by rw [Bd.returns] at h; cases h) (Q0 Z p1 p2 h0 n0) (fun fs hr => retN X28 hx (t := .boolean) Bd.returns (by simp) (hb hby at_112) hr) (by decide) (by decide) ?_
              show Q0 Z p1 p2 h0 n0 _ T28.heap _
              rw [e28]
              exact ⟨(by rw [own_0, if_neg hc1, if_neg hc13, if_pos hc25, if_pos hc26, if_pos hc27, if_neg hc29]), N28⟩
          · skip
            refine go1 (fun _ => XS.ifYes X0.here hx rfl (pc0 := 82) (pc' := 94) rfl (hb hby at_82) rfl ((if0 _ _).trans (flt (mt (lw_gt _ _).mp hc27)).2.2.2) (by decide) (by decide)) ?_
            show Go p.tables e below s₁ (mkF m 94 #[.val (.long p1), .second, .val (.int p2), .val (.int (p2 &&& (3 : Int32))), .val (.long ((p1 &&& (3 : Int64)) - (1 : Int64))), .second, .val (.int (1 : Int32)), .unset] []) _
            refine go1 (fun _ => XS.iconst X0.here hx rfl (hb hby at_94)) ?_
            show Go p.tables e below s₁ (mkF m 95 #[.val (.long p1), .second, .val (.int p2), .val (.int (p2 &&& (3 : Int32))), .val (.long ((p1 &&& (3 : Int64)) - (1 : Int64))), .second, .val (.int (1 : Int32)), .unset] [(.int (0 : Int32))]) _
            refine go1 (fun _ => XS.istore X0.here hx rfl (hb hby at_95) rfl (l' := #[.val (.long p1), .second, .val (.int p2), .val (.int (p2 &&& (3 : Int32))), .val (.long ((p1 &&& (3 : Int64)) - (1 : Int64))), .second, .val (.int (1 : Int32)), .val (.int (0 : Int32))]) rfl) ?_
            show Go p.tables e below s₁ (mkF m 97 #[.val (.long p1), .second, .val (.int p2), .val (.int (p2 &&& (3 : Int32))), .val (.long ((p1 &&& (3 : Int64)) - (1 : Int64))), .second, .val (.int (1 : Int32)), .val (.int (0 : Int32))] []) _
            refine go1 (fun _ => XS.lload X0.here hx rfl (hb hby at_97) rfl) ?_
            show Go p.tables e below s₁ (mkF m 99 #[.val (.long p1), .second, .val (.int p2), .val (.int (p2 &&& (3 : Int32))), .val (.long ((p1 &&& (3 : Int64)) - (1 : Int64))), .second, .val (.int (1 : Int32)), .val (.int (0 : Int32))] [(.long ((p1 &&& (3 : Int64)) - (1 : Int64)))]) _
            obtain ⟨_, _, ⟨T30, L30, k30, n30⟩, -, X30, ⟨Lc30, hQ30, l30, y30, z30⟩, st30⟩ := Jvm.LawKit.callS X0 hx (y := (⟨"com/example/stubwright/stubwright/mapping/JavaTypes", "isChecked", "(J)Z"⟩ : MethodName)) hown (mvT hZ (hw _ (List.mem_of_getElem? (i := 1) rfl))) (mvT hZ (hw _ (List.mem_of_getElem? (i := 2) rfl))) (mvT hZ (hw _ (List.mem_of_getElem? (i := 3) rfl))) (mvT hZ (hw _ (List.mem_of_getElem? (i := 4) rfl))) (by decide) (backOf (W := 0) (rm1 l Z a0 hw [] ((p1 &&& (3 : Int64)) - (1 : Int64)) h0 n0 Z0 ) hZ (hw _ (List.mem_of_getElem? (i := 4) rfl)) (hw _ (List.mem_of_getElem? (i := 3) rfl)) (by decide) (by decide)) (g := (mkF m 99 #[.val (.long p1), .second, .val (.int p2), .val (.int (p2 &&& (3 : Int32))), .val (.long ((p1 &&& (3 : Int64)) - (1 : Int64))), .second, .val (.int (1 : Int32)), .val (.int (0 : Int32))] [(.long ((p1 &&& (3 : Int64)) - (1 : Int64)))])) rfl (by rw [hml]; rfl) (argsL := [(.long ((p1 &&& (3 : Int64)) - (1 : Int64)))]) (rest := []) (lenOf pd0_0 rfl) rfl (by show 2 * 0 + _ ≤ _; exact Nat.le_of_eq rfl) (hb hby at_99) (fun _ _ => ⟨rfl, e0, (by decide : 0 + 0 ≤ _), (by decide : 0 + 0 ≤ _)⟩)
            dsimp only [Pt.U, Pt.locs, Pt.cells, Pt.slots] at X30 l30 y30 z30 st30 hQ30
            subst l30 y30 z30
            obtain ⟨rfl, N30q, e30⟩ := hQ30
            have N30 := Fr.app N0 N30q
            refine go1 st30 ?_
            show Go p.tables e below T30 (mkF m 102 #[.val (.long p1), .second, .val (.int p2), .val (.int (p2 &&& (3 : Int32))), .val (.long ((p1 &&& (3 : Int64)) - (1 : Int64))), .second, .val (.int (1 : Int32)), .val (.int (0 : Int32))] [(.int (own_1 ((p1 &&& (3 : Int64)) - (1 : Int64))))]) _
            refine go1 (fun _ => XS.iload X30.here hx rfl (hb hby at_102) rfl) ?_
            show Go p.tables e below T30 (mkF m 104 #[.val (.long p1), .second, .val (.int p2), .val (.int (p2 &&& (3 : Int32))), .val (.long ((p1 &&& (3 : Int64)) - (1 : Int64))), .second, .val (.int (1 : Int32)), .val (.int (0 : Int32))] [(.int (0 : Int32)), (.int (own_1 ((p1 &&& (3 : Int64)) - (1 : Int64))))]) _
            by_cases hc31 : (own_1 ((p1 &&& (3 : Int64)) - (1 : Int64))) = (0 : Int32)
            · skip
              refine go1 (fun _ => XS.icmpNo X30.here hx rfl (hb hby at_104) rfl (teq hc31).2) ?_
              show Go p.tables e below T30 (mkF m 107 #[.val (.long p1), .second, .val (.int p2), .val (.int (p2 &&& (3 : Int32))), .val (.long ((p1 &&& (3 : Int64)) - (1 : Int64))), .second, .val (.int (1 : Int32)), .val (.int (0 : Int32))] []) _
              refine go1 (fun _ => XS.iconst X30.here hx rfl (hb hby at_107)) ?_
              show Go p.tables e below T30 (mkF m 108 #[.val (.long p1), .second, .val (.int p2), .val (.int (p2 &&& (3 : Int32))), .val (.long ((p1 &&& (3 : Int64)) - (1 : Int64))), .second, .val (.int (1 : Int32)), .val (.int (0 : Int32))] [(.int (1 : Int32))]) _
              refine go1 (fun _ => XS.goto X30.here hx rfl (pc0 := 108) (pc' := 112) rfl (hb hby at_108) (by decide) (by decide)) ?_
              show Go p.tables e below T30 (mkF m 112 #[.val (.long p1), .second, .val (.int p2), .val (.int (p2 &&& (3 : Int32))), .val (.long ((p1 &&& (3 : Int64)) - (1 : Int64))), .second, .val (.int (1 : Int32)), .val (.int (0 : Int32))] [(.int (1 : Int32))]) _
              refine goR X30 (BodyLoose.notSynchronized Bd) (v := (some (.int (1 : Int32)))) (fun h => by rw [Bd.returns] at h; cases h) (Q0 Z p1 p2 h0 n0) (fun fs hr => retN X30 hx (t := .boolean) Bd.returns (by simp) (hb hby at_112) hr) (by decide) (by decide) ?_
              show Q0 Z p1 p2 h0 n0 _ T30.heap _
              rw [e30]
              exact ⟨(by rw [own_0, if_neg hc1, if_neg hc13, if_pos hc25, if_pos hc26, if_neg hc27, if_pos hc31]), N30⟩
            · skip
              refine go1 (fun _ => XS.icmpYes X30.here hx rfl (pc0 := 104) (pc' := 111) rfl (hb hby at_104) rfl (feq hc31).2 (by decide) (by decide)) ?_
              show Go p.tables e below T30 (mkF m 111 #[.val (.long p1), .second, .val (.int p2), .val (.int (p2 &&& (3 : Int32))), .val (.long ((p1 &&& (3 : Int64)) - (1 : Int64))), .second, .val (.int (1 : Int32)), .val (.int (0 : Int32))] []) _
              refine go1 (fun _ => XS.iconst X30.here hx rfl (hb hby at_111)) ?_
              show Go p.tables e below T30 (mkF m 112 #[.val (.long p1), .second, .val (.int p2), .val (.int (p2 &&& (3 : Int32))), .val (.long ((p1 &&& (3 : Int64)) - (1 : Int64))), .second, .val (.int (1 : Int32)), .val (.int (0 : Int32))] [(.int (0 : Int32))]) _
              refine goR X30 (BodyLoose.notSynchronized Bd) (v := (some (.int (0 : Int32)))) (fun h => by rw [Bd.returns] at h; cases h) (Q0 Z p1 p2 h0 n0) (fun fs hr => retN X30 hx (t := .boolean) Bd.returns (by simp) (hb hby at_112) hr) (by decide) (by decide) ?_
              show Q0 Z p1 p2 h0 n0 _ T30.heap _
              rw [e30]
              exact ⟨(by rw [own_0, if_neg hc1, if_neg hc13, if_pos hc25, if_pos hc26, if_neg hc27, if_neg hc31]), N30⟩
        · skip
          refine go1 (fun _ => XS.ifYes X0.here hx rfl (pc0 := 68) (pc' := 75) rfl (hb hby at_68) rfl ((if0 _ _).trans (feq (mt (lw_eq _ _).mp hc26)).2) (by decide) (by decide)) ?_
          show Go p.tables e below s₁ (mkF m 75 #[.val (.long p1), .second, .val (.int p2), .val (.int (p2 &&& (3 : Int32))), .val (.long ((p1 &&& (3 : Int64)) - (1 : Int64))), .second, .unset, .unset] []) _
          refine go1 (fun _ => XS.iconst X0.here hx rfl (hb hby at_75)) ?_
          show Go p.tables e below s₁ (mkF m 76 #[.val (.long p1), .second, .val (.int p2), .val (.int (p2 &&& (3 : Int32))), .val (.long ((p1 &&& (3 : Int64)) - (1 : Int64))), .second, .unset, .unset] [(.int (0 : Int32))]) _
          refine go1 (fun _ => XS.istore X0.here hx rfl (hb hby at_76) rfl (l' := #[.val (.long p1), .second, .val (.int p2), .val (.int (p2 &&& (3 : Int32))), .val (.long ((p1 &&& (3 : Int64)) - (1 : Int64))), .second, .val (.int (0 : Int32)), .unset]) rfl) ?_
          show Go p.tables e below s₁ (mkF m 78 #[.val (.long p1), .second, .val (.int p2), .val (.int (p2 &&& (3 : Int32))), .val (.long ((p1 &&& (3 : Int64)) - (1 : Int64))), .second, .val (.int (0 : Int32)), .unset] []) _
          refine go1 (fun _ => XS.lload X0.here hx rfl (hb hby at_78) rfl) ?_
          show Go p.tables e below s₁ (mkF m 80 #[.val (.long p1), .second, .val (.int p2), .val (.int (p2 &&& (3 : Int32))), .val (.long ((p1 &&& (3 : Int64)) - (1 : Int64))), .second, .val (.int (0 : Int32)), .unset] [(.long ((p1 &&& (3 : Int64)) - (1 : Int64)))]) _
          refine go1 (fun _ => XS.lconst X0.here hx rfl (hb hby at_80)) ?_
          show Go p.tables e below s₁ (mkF m 81 #[.val (.long p1), .second, .val (.int p2), .val (.int (p2 &&& (3 : Int32))), .val (.long ((p1 &&& (3 : Int64)) - (1 : Int64))), .second, .val (.int (0 : Int32)), .unset] [(.long (0 : Int64)), (.long ((p1 &&& (3 : Int64)) - (1 : Int64)))]) _
          refine go1 (fun _ => XS.lcmp X0.here hx rfl (hb hby at_81) rfl) ?_
          show Go p.tables e below s₁ (mkF m 82 #[.val (.long p1), .second, .val (.int p2), .val (.int (p2 &&& (3 : Int32))), .val (.long ((p1 &&& (3 : Int64)) - (1 : Int64))), .second, .val (.int (0 : Int32)), .unset] [(.int (lcmpW ((p1 &&& (3 : Int64)) - (1 : Int64)) (0 : Int64)))]) _
          by_cases hc32 : (0 : Int64) < ((p1 &&& (3 : Int64)) - (1 : Int64))
          · skip
            refine go1 (fun _ => XS.ifNo X0.here hx rfl (hb hby at_82) rfl ((if0 _ _).trans (tlt ((lw_gt _ _).mpr hc32)).2.2.2)) ?_
            show Go p.tables e below s₁ (mkF m 85 #[.val (.long p1), .second, .val (.int p2), .val (.int (p2 &&& (3 : Int32))), .val (.long ((p1 &&& (3 : Int64)) - (1 : Int64))), .second, .val (.int (0 : Int32)), .unset] []) _
            refine go1 (fun _ => XS.iload X0.here hx rfl (hb hby at_85) rfl) ?_
            show Go p.tables e below s₁ (mkF m 87 #[.val (.long p1), .second, .val (.int p2), .val (.int (p2 &&& (3 : Int32))), .val (.long ((p1 &&& (3 : Int64)) - (1 : Int64))), .second, .val (.int (0 : Int32)), .unset] [(.int (0 : Int32))]) _
            refine go1 (fun _ => XS.ifYes X0.here hx rfl (pc0 := 87) (pc' := 94) rfl (hb hby at_87) rfl ((if0 _ _).trans (teq (by decide : (0 : Int32) = (0 : Int32))).1) (by decide) (by decide)) ?_
            show Go p.tables e below s₁ (mkF m 94 #[.val (.long p1), .second, .val (.int p2), .val (.int (p2 &&& (3 : Int32))), .val (.long ((p1 &&& (3 : Int64)) - (1 : Int64))), .second, .val (.int (0 : Int32)), .unset] []) _
            refine go1 (fun _ => XS.iconst X0.here hx rfl (hb hby at_94)) ?_
            show Go p.tables e below s₁ (mkF m 95 #[.val (.long p1), .second, .val (.int p2), .val (.int (p2 &&& (3 : Int32))), .val (.long ((p1 &&& (3 : Int64)) - (1 : Int64))), .second, .val (.int (0 : Int32)), .unset] [(.int (0 : Int32))]) _
            refine go1 (fun _ => XS.istore X0.here hx rfl (hb hby at_95) rfl (l' := #[.val (.long p1), .second, .val (.int p2), .val (.int (p2 &&& (3 : Int32))), .val (.long ((p1 &&& (3 : Int64)) - (1 : Int64))), .second, .val (.int (0 : Int32)), .val (.int (0 : Int32))]) rfl) ?_
            show Go p.tables e below s₁ (mkF m 97 #[.val (.long p1), .second, .val (.int p2), .val (.int (p2 &&& (3 : Int32))), .val (.long ((p1 &&& (3 : Int64)) - (1 : Int64))), .second, .val (.int (0 : Int32)), .val (.int (0 : Int32))] []) _
            refine go1 (fun _ => XS.lload X0.here hx rfl (hb hby at_97) rfl) ?_
            show Go p.tables e below s₁ (mkF m 99 #[.val (.long p1), .second, .val (.int p2), .val (.int (p2 &&& (3 : Int32))), .val (.long ((p1 &&& (3 : Int64)) - (1 : Int64))), .second, .val (.int (0 : Int32)), .val (.int (0 : Int32))] [(.long ((p1 &&& (3 : Int64)) - (1 : Int64)))]) _
            obtain ⟨_, _, ⟨T33, L33, k33, n33⟩, -, X33, ⟨Lc33, hQ33, l33, y33, z33⟩, st33⟩ := Jvm.LawKit.callS X0 hx (y := (⟨"com/example/stubwright/stubwright/mapping/JavaTypes", "isChecked", "(J)Z"⟩ : MethodName)) hown (mvT hZ (hw _ (List.mem_of_getElem? (i := 1) rfl))) (mvT hZ (hw _ (List.mem_of_getElem? (i := 2) rfl))) (mvT hZ (hw _ (List.mem_of_getElem? (i := 3) rfl))) (mvT hZ (hw _ (List.mem_of_getElem? (i := 4) rfl))) (by decide) (backOf (W := 0) (rm1 l Z a0 hw [] ((p1 &&& (3 : Int64)) - (1 : Int64)) h0 n0 Z0 ) hZ (hw _ (List.mem_of_getElem? (i := 4) rfl)) (hw _ (List.mem_of_getElem? (i := 3) rfl)) (by decide) (by decide)) (g := (mkF m 99 #[.val (.long p1), .second, .val (.int p2), .val (.int (p2 &&& (3 : Int32))), .val (.long ((p1 &&& (3 : Int64)) - (1 : Int64))), .second, .val (.int (0 : Int32)), .val (.int (0 : Int32))] [(.long ((p1 &&& (3 : Int64)) - (1 : Int64)))])) rfl (by rw [hml]; rfl) (argsL := [(.long ((p1 &&& (3 : Int64)) - (1 : Int64)))]) (rest := []) (lenOf pd0_0 rfl) rfl (by show 2 * 0 + _ ≤ _; exact Nat.le_of_eq rfl) (hb hby at_99) (fun _ _ => ⟨rfl, e0, (by decide : 0 + 0 ≤ _), (by decide : 0 + 0 ≤ _)⟩)
            dsimp only [Pt.U, Pt.locs, Pt.cells, Pt.slots] at X33 l33 y33 z33 st33 hQ33
            subst l33 y33 z33
            obtain ⟨rfl, N33q, e33⟩ := hQ33
            have N33 := Fr.app N0 N33q
            refine go1 st33 ?_
            show Go p.tables e below T33 (mkF m 102 #[.val (.long p1), .second, .val (.int p2), .val (.int (p2 &&& (3 : Int32))), .val (.long ((p1 &&& (3 : Int64)) - (1 : Int64))), .second, .val (.int (0 : Int32)), .val (.int (0 : Int32))] [(.int (own_1 ((p1 &&& (3 : Int64)) - (1 : Int64))))]) _
            refine go1 (fun _ => XS.iload X33.here hx rfl (hb hby at_102) rfl) ?_
            show Go p.tables e below T33 (mkF m 104 #[.val (.long p1), .second, .val (.int p2), .val (.int (p2 &&& (3 : Int32))), .val (.long ((p1 &&& (3 : Int64)) - (1 : Int64))), .second, .val (.int (0 : Int32)), .val (.int (0 : Int32))] [(.int (0 : Int32)), (.int (own_1 ((p1 &&& (3 : Int64)) - (1 : Int64))))]) _
            by_cases hc34 : (own_1 ((p1 &&& (3 : Int64)) - (1 : Int64))) = (0 : Int32)
            · skip
              refine go1 (fun _ => XS.icmpNo X33.here hx rfl (hb hby at_104) rfl (teq hc34).2) ?_
              show Go p.tables e below T33 (mkF m 107 #[.val (.long p1), .second, .val (.int p2), .val (.int (p2 &&& (3 : Int32))), .val (.long ((p1 &&& (3 : Int64)) - (1 : Int64))), .second, .val (.int (0 : Int32)), .val (.int (0 : Int32))] []) _
              refine go1 (fun _ => XS.iconst X33.here hx rfl (hb hby at_107)) ?_
              show Go p.tables e below T33 (mkF m 108 #[.val (.long p1), .second, .val (.int p2), .val (.int (p2 &&& (3 : Int32))), .val (.long ((p1 &&& (3 : Int64)) - (1 : Int64))), .second, .val (.int (0 : Int32)), .val (.int (0 : Int32))] [(.int (1 : Int32))]) _
              refine go1 (fun _ => XS.goto X33.here hx rfl (pc0 := 108) (pc' := 112) rfl (hb hby at_108) (by decide) (by decide)) ?_
              show Go p.tables e below T33 (mkF m 112 #[.val (.long p1), .second, .val (.int p2), .val (.int (p2 &&& (3 : Int32))), .val (.long ((p1 &&& (3 : Int64)) - (1 : Int64))), .second, .val (.int (0 : Int32)), .val (.int (0 : Int32))] [(.int (1 : Int32))]) _
              refine goR X33 (BodyLoose.notSynchronized Bd) (v := (some (.int (1 : Int32)))) (fun h => by rw [Bd.returns] at h; cases h) (Q0 Z p1 p2 h0 n0) (fun fs hr => retN X33 hx (t := .boolean) Bd.returns (by simp) (hb hby at_112) hr) (by decide) (by decide) ?_
              show Q0 Z p1 p2 h0 n0 _ T33.heap _
              rw [e33]
              exact ⟨(by rw [own_0, if_neg hc1, if_neg hc13, if_pos hc25, if_neg hc26, if_pos hc32, if_pos hc34]), N33⟩
            · skip
              refine go1 (fun _ => XS.icmpYes X33.here hx rfl (pc0 := 104) (pc' := 111) rfl (hb hby at_104) rfl (feq hc34).2 (by decide) (by decide)) ?_
              show Go p.tables e below T33 (mkF m 111 #[.val (.long p1), .second, .val (.int p2), .val (.int (p2 &&& (3 : Int32))), .val (.long ((p1 &&& (3 : Int64)) - (1 : Int64))), .second, .val (.int (0 : Int32)), .val (.int (0 : Int32))] []) _
              refine go1 (fun _ => XS.iconst X33.here hx rfl (hb hby at_111)) ?_
              show Go p.tables e below T33 (mkF m 112 #[.val (.long p1), .second, .val (.int p2), .val (.int (p2 &&& (3 : Int32))), .val (.long ((p1 &&& (3 : Int64)) - (1 : Int64))), .second, .val (.int (0 : Int32)), .val (.int (0 : Int32))] [(.int (0 : Int32))]) _
              refine goR X33 (BodyLoose.notSynchronized Bd) (v := (some (.int (0 : Int32)))) (fun h => by rw [Bd.returns] at h; cases h) (Q0 Z p1 p2 h0 n0) (fun fs hr => retN X33 hx (t := .boolean) Bd.returns (by simp) (hb hby at_112) hr) (by decide) (by decide) ?_
              show Q0 Z p1 p2 h0 n0 _ T33.heap _
              rw [e33]
              exact ⟨(by rw [own_0, if_neg hc1, if_neg hc13, if_pos hc25, if_neg hc26, if_pos hc32, if_neg hc34]), N33⟩
          · skip
            refine go1 (fun _ => XS.ifYes X0.here hx rfl (pc0 := 82) (pc' := 94) rfl (hb hby at_82) rfl ((if0 _ _).trans (flt (mt (lw_gt _ _).mp hc32)).2.2.2) (by decide) (by decide)) ?_
            show Go p.tables e below s₁ (mkF m 94 #[.val (.long p1), .second, .val (.int p2), .val (.int (p2 &&& (3 : Int32))), .val (.long ((p1 &&& (3 : Int64)) - (1 : Int64))), .second, .val (.int (0 : Int32)), .unset] []) _
            refine go1 (fun _ => XS.iconst X0.here hx rfl (hb hby at_94)) ?_
            show Go p.tables e below s₁ (mkF m 95 #[.val (.long p1), .second, .val (.int p2), .val (.int (p2 &&& (3 : Int32))), .val (.long ((p1 &&& (3 : Int64)) - (1 : Int64))), .second, .val (.int (0 : Int32)), .unset] [(.int (0 : Int32))]) _
            refine go1 (fun _ => XS.istore X0.here hx rfl (hb hby at_95) rfl (l' := #[.val (.long p1), .second, .val (.int p2), .val (.int (p2 &&& (3 : Int32))), .val (.long ((p1 &&& (3 : Int64)) - (1 : Int64))), .second, .val (.int (0 : Int32)), .val (.int (0 : Int32))]) rfl) ?_
            show Go p.tables e below s₁ (mkF m 97 #[.val (.long p1), .second, .val (.int p2), .val (.int (p2 &&& (3 : Int32))), .val (.long ((p1 &&& (3 : Int64)) - (1 : Int64))), .second, .val (.int (0 : Int32)), .val (.int (0 : Int32))] []) _
            refine go1 (fun _ => XS.lload X0.here hx rfl (hb hby at_97) rfl) ?_
            show Go p.tables e below s₁ (mkF m 99 #[.val (.long p1), .second, .val (.int p2), .val (.int (p2 &&& (3 : Int32))), .val (.long ((p1 &&& (3 : Int64)) - (1 : Int64))), .second, .val (.int (0 : Int32)), .val (.int (0 : Int32))] [(.long ((p1 &&& (3 : Int64)) - (1 : Int64)))]) _
            obtain ⟨_, _, ⟨T35, L35, k35, n35⟩, -, X35, ⟨Lc35, hQ35, l35, y35, z35⟩, st35⟩ := Jvm.LawKit.callS X0 hx (y := (⟨"com/example/stubwright/stubwright/mapping/JavaTypes", "isChecked", "(J)Z"⟩ : MethodName)) hown (mvT hZ (hw _ (List.mem_of_getElem? (i := 1) rfl))) (mvT hZ (hw _ (List.mem_of_getElem? (i := 2) rfl))) (mvT hZ (hw _ (List.mem_of_getElem? (i := 3) rfl))) (mvT hZ (hw _ (List.mem_of_getElem? (i := 4) rfl))) (by decide) (backOf (W := 0) (rm1 l Z a0 hw [] ((p1 &&& (3 : Int64)) - (1 : Int64)) h0 n0 Z0 ) hZ (hw _ (List.mem_of_getElem? (i := 4) rfl)) (hw _ (List.mem_of_getElem? (i := 3) rfl)) (by decide) (by decide)) (g := (mkF m 99 #[.val (.long p1), .second, .val (.int p2), .val (.int (p2 &&& (3 : Int32))), .val (.long ((p1 &&& (3 : Int64)) - (1 : Int64))), .second, .val (.int (0 : Int32)), .val (.int (0 : Int32))] [(.long ((p1 &&& (3 : Int64)) - (1 : Int64)))])) rfl (by rw [hml]; rfl) (argsL := [(.long ((p1 &&& (3 : Int64)) - (1 : Int64)))]) (rest := []) (lenOf pd0_0 rfl) rfl (by show 2 * 0 + _ ≤ _; exact Nat.le_of_eq rfl) (hb hby at_99) (fun _ _ => ⟨rfl, e0, (by decide : 0 + 0 ≤ _), (by decide : 0 + 0 ≤ _)⟩)
            dsimp only [Pt.U, Pt.locs, Pt.cells, Pt.slots] at X35 l35 y35 z35 st35 hQ35
            subst l35 y35 z35
            obtain ⟨rfl, N35q, e35⟩ := hQ35
            have N35 := Fr.app N0 N35q
            refine go1 st35 ?_
            show Go p.tables e below T35 (mkF m 102 #[.val (.long p1), .second, .val (.int p2), .val (.int (p2 &&& (3 : Int32))), .val (.long ((p1 &&& (3 : Int64)) - (1 : Int64))), .second, .val (.int (0 : Int32)), .val (.int (0 : Int32))] [(.int (own_1 ((p1 &&& (3 : Int64)) - (1 : Int64))))]) _
            refine go1 (fun _ => XS.iload X35.here hx rfl (hb hby at_102) rfl) ?_
            show Go p.tables e below T35 (mkF m 104 #[.val (.long p1), .second, .val (.int p2), .val (.int (p2 &&& (3 : Int32))), .val (.long ((p1 &&& (3 : Int64)) - (1 : Int64))), .second, .val (.int (0 : Int32)), .val (.int (0 : Int32))] [(.int (0 : Int32)), (.int (own_1 ((p1 &&& (3 : Int64)) - (1 : Int64))))]) _
            by_cases hc36 : (own_1 ((p1 &&& (3 : Int64)) - (1 : Int64))) = (0 : Int32)
            · skip
              refine go1 (fun _ => XS.icmpNo X35.here hx rfl (hb hby at_104) rfl (teq hc36).2) ?_
              show Go p.tables e below T35 (mkF m 107 #[.val (.long p1), .second, .val (.int p2), .val (.int (p2 &&& (3 : Int32))), .val (.long ((p1 &&& (3 : Int64)) - (1 : Int64))), .second, .val (.int (0 : Int32)), .val (.int (0 : Int32))] []) _
              refine go1 (fun _ => XS.iconst X35.here hx rfl (hb hby at_107)) ?_
              show Go p.tables e below T35 (mkF m 108 #[.val (.long p1), .second, .val (.int p2), .val (.int (p2 &&& (3 : Int32))), .val (.long ((p1 &&& (3 : Int64)) - (1 : Int64))), .second, .val (.int (0 : Int32)), .val (.int (0 : Int32))] [(.int (1 : Int32))]) _
              refine go1 (fun _ => XS.goto X35.here hx rfl (pc0 := 108) (pc' := 112) rfl (hb hby at_108) (by decide) (by decide)) ?_
              show Go p.tables e below T35 (mkF m 112 #[.val (.long p1), .second, .val (.int p2), .val (.int (p2 &&& (3 : Int32))), .val (.long ((p1 &&& (3 : Int64)) - (1 : Int64))), .second, .val (.int (0 : Int32)), .val (.int (0 : Int32))] [(.int (1 : Int32))]) _
              refine goR X35 (BodyLoose.notSynchronized Bd) (v := (some (.int (1 : Int32)))) (fun h => by rw [Bd.returns] at h; cases h) (Q0 Z p1 p2 h0 n0) (fun fs hr => retN X35 hx (t := .boolean) Bd.returns (by simp) (hb hby at_112) hr) (by decide) (by decide) ?_
              show Q0 Z p1 p2 h0 n0 _ T35.heap _
              rw [e35]
              exact ⟨(by rw [own_0, if_neg hc1, if_neg hc13, if_pos hc25, if_neg hc26, if_neg hc32, if_pos hc36]), N35⟩
            · skip
              refine go1 (fun _ => XS.icmpYes X35.here hx rfl (pc0 := 104) (pc' := 111) rfl (hb hby at_104) rfl (feq hc36).2 (by decide) (by decide)) ?_
              show Go p.tables e below T35 (mkF m 111 #[.val (.long p1), .second, .val (.int p2), .val (.int (p2 &&& (3 : Int32))), .val (.long ((p1 &&& (3 : Int64)) - (1 : Int64))), .second, .val (.int (0 : Int32)), .val (.int (0 : Int32))] []) _
              refine go1 (fun _ => XS.iconst X35.here hx rfl (hb hby at_111)) ?_
              show Go p.tables e below T35 (mkF m 112 #[.val (.long p1), .second, .val (.int p2), .val (.int (p2 &&& (3 : Int32))), .val (.long ((p1 &&& (3 : Int64)) - (1 : Int64))), .second, .val (.int (0 : Int32)), .val (.int (0 : Int32))] [(.int (0 : Int32))]) _
              refine goR X35 (BodyLoose.notSynchronized Bd) (v := (some (.int (0 : Int32)))) (fun h => by rw [Bd.returns] at h; cases h) (Q0 Z p1 p2 h0 n0) (fun fs hr => retN X35 hx (t := .boolean) Bd.returns (by simp) (hb hby at_112) hr) (by decide) (by decide) ?_
              show Q0 Z p1 p2 h0 n0 _ T35.heap _
              rw [e35]
              exact ⟨(by rw [own_0, if_neg hc1, if_neg hc13, if_pos hc25, if_neg hc26, if_neg hc32, if_neg hc36]), N35⟩
      · skip
        refine go1 (fun _ => XS.icmpYes X0.here hx rfl (pc0 := 37) (pc' := 52) rfl (hb hby at_37) rfl (feq hc25).2 (by decide) (by decide)) ?_
        show Go p.tables e below s₁ (mkF m 52 #[.val (.long p1), .second, .val (.int p2), .val (.int (p2 &&& (3 : Int32))), .unset, .unset, .unset, .unset] []) _
        refine go1 (X0.ldc2Long hx hown (mvT hZ (hw _ (List.mem_of_getElem? (i := 6) rfl))) (g := (mkF m 52 #[.val (.long p1), .second, .val (.int p2), .val (.int (p2 &&& (3 : Int32))), .unset, .unset, .unset, .unset] [])) rfl (hb hby at_52)) ?_
        show Go p.tables e below s₁ (mkF m 55 #[.val (.long p1), .second, .val (.int p2), .val (.int (p2 &&& (3 : Int32))), .unset, .unset, .unset, .unset] [(.long (4294967295 : Int64))]) _
        refine go1 (fun _ => XS.lloadN X0.here hx rfl (hb hby at_55) rfl) ?_
        show Go p.tables e below s₁ (mkF m 56 #[.val (.long p1), .second, .val (.int p2), .val (.int (p2 &&& (3 : Int32))), .unset, .unset, .unset, .unset] [(.long p1), (.long (4294967295 : Int64))]) _
        refine go1 (fun _ => XS.lconst X0.here hx rfl (hb hby at_56)) ?_
        show Go p.tables e below s₁ (mkF m 57 #[.val (.long p1), .second, .val (.int p2), .val (.int (p2 &&& (3 : Int32))), .unset, .unset, .unset, .unset] [(.long (1 : Int64)), (.long p1), (.long (4294967295 : Int64))]) _
        refine go1 (fun _ => XS.land X0.here hx rfl (hb hby at_57) rfl) ?_
        show Go p.tables e below s₁ (mkF m 58 #[.val (.long p1), .second, .val (.int p2), .val (.int (p2 &&& (3 : Int32))), .unset, .unset, .unset, .unset] [(.long (p1 &&& (1 : Int64))), (.long (4294967295 : Int64))]) _
        refine go1 (fun _ => XS.lsub X0.here hx rfl (hb hby at_58) rfl) ?_
        show Go p.tables e below s₁ (mkF m 59 #[.val (.long p1), .second, .val (.int p2), .val (.int (p2 &&& (3 : Int32))), .unset, .unset, .unset, .unset] [(.long ((4294967295 : Int64) - (p1 &&& (1 : Int64))))]) _
        refine go1 (fun _ => XS.lstore X0.here hx rfl (hb hby at_59) rfl (l' := #[.val (.long p1), .second, .val (.int p2), .val (.int (p2 &&& (3 : Int32))), .val (.long ((4294967295 : Int64) - (p1 &&& (1 : Int64)))), .second, .unset, .unset]) rfl) ?_
        show Go p.tables e below s₁ (mkF m 61 #[.val (.long p1), .second, .val (.int p2), .val (.int (p2 &&& (3 : Int32))), .val (.long ((4294967295 : Int64) - (p1 &&& (1 : Int64)))), .second, .unset, .unset] []) _
        refine go1 (fun _ => XS.lload X0.here hx rfl (hb hby at_61) rfl) ?_
        show Go p.tables e below s₁ (mkF m 63 #[.val (.long p1), .second, .val (.int p2), .val (.int (p2 &&& (3 : Int32))), .val (.long ((4294967295 : Int64) - (p1 &&& (1 : Int64)))), .second, .unset, .unset] [(.long ((4294967295 : Int64) - (p1 &&& (1 : Int64))))]) _
        refine go1 (fun _ => XS.l2i X0.here hx rfl (hb hby at_63) rfl) ?_
        show Go p.tables e below s₁ (mkF m 64 #[.val (.long p1), .second, .val (.int p2), .val (.int (p2 &&& (3 : Int32))), .val (.long ((4294967295 : Int64) - (p1 &&& (1 : Int64)))), .second, .unset, .unset] [(.int (((4294967295 : Int64) - (p1 &&& (1 : Int64))).toInt32))]) _
        refine go1 (fun _ => XS.i2l X0.here hx rfl (hb hby at_64) rfl) ?_
        show Go p.tables e below s₁ (mkF m 65 #[.val (.long p1), .second, .val (.int p2), .val (.int (p2 &&& (3 : Int32))), .val (.long ((4294967295 : Int64) - (p1 &&& (1 : Int64)))), .second, .unset, .unset] [(.long ((((4294967295 : Int64) - (p1 &&& (1 : Int64))).toInt32).toInt64))]) _
        refine go1 (fun _ => XS.lload X0.here hx rfl (hb hby at_65) rfl) ?_
        show Go p.tables e below s₁ (mkF m 67 #[.val (.long p1), .second, .val (.int p2), .val (.int (p2 &&& (3 : Int32))), .val (.long ((4294967295 : Int64) - (p1 &&& (1 : Int64)))), .second, .unset, .unset] [(.long ((4294967295 : Int64) - (p1 &&& (1 : Int64)))), (.long ((((4294967295 : Int64) - (p1 &&& (1 : Int64))).toInt32).toInt64))]) _
        refine go1 (fun _ => XS.lcmp X0.here hx rfl (hb hby at_67) rfl) ?_
        show Go p.tables e below s₁ (mkF m 68 #[.val (.long p1), .second, .val (.int p2), .val (.int (p2 &&& (3 : Int32))), .val (.long ((4294967295 : Int64) - (p1 &&& (1 : Int64)))), .second, .unset, .unset] [(.int (lcmpW ((((4294967295 : Int64) - (p1 &&& (1 : Int64))).toInt32).toInt64) ((4294967295 : Int64) - (p1 &&& (1 : Int64)))))]) _
        by_cases hc37 : ((((4294967295 : Int64) - (p1 &&& (1 : Int64))).toInt32).toInt64) = ((4294967295 : Int64) - (p1 &&& (1 : Int64)))
        · skip
          refine go1 (fun _ => XS.ifNo X0.here hx rfl (hb hby at_68) rfl ((if0 _ _).trans (teq ((lw_eq _ _).mpr hc37)).2)) ?_
          show Go p.tables e below s₁ (mkF m 71 #[.val (.long p1), .second, .val (.int p2), .val (.int (p2 &&& (3 : Int32))), .val (.long ((4294967295 : Int64) - (p1 &&& (1 : Int64)))), .second, .unset, .unset] []) _
          refine go1 (fun _ => XS.iconst X0.here hx rfl (hb hby at_71)) ?_
          show Go p.tables e below s₁ (mkF m 72 #[.val (.long p1), .second, .val (.int p2), .val (.int (p2 &&& (3 : Int32))), .val (.long ((4294967295 : Int64) - (p1 &&& (1 : Int64)))), .second, .unset, .unset] [(.int (1 : Int32))]) _
          refine go1 (fun _ => XS.goto X0.here hx rfl (pc0 := 72) (pc' := 76) rfl (hb hby at_72) (by decide) (by decide)) ?_
          show Go p.tables e below s₁ (mkF m 76 #[.val (.long p1), .second, .val (.int p2), .val (.int (p2 &&& (3 : Int32))), .val (.long ((4294967295 : Int64) - (p1 &&& (1 : Int64)))), .second, .unset, .unset] [(.int (1 : Int32))]) _
          refine go1 (fun _ => XS.istore X0.here hx rfl (hb hby at_76) rfl (l' := #[.val (.long p1), .second, .val (.int p2), .val (.int (p2 &&& (3 : Int32))), .val (.long ((4294967295 : Int64) - (p1 &&& (1 : Int64)))), .second, .val (.int (1 : Int32)), .unset]) rfl) ?_
          show Go p.tables e below s₁ (mkF m 78 #[.val (.long p1), .second, .val (.int p2), .val (.int (p2 &&& (3 : Int32))), .val (.long ((4294967295 : Int64) - (p1 &&& (1 : Int64)))), .second, .val (.int (1 : Int32)), .unset] []) _
          refine go1 (fun _ => XS.lload X0.here hx rfl (hb hby at_78) rfl) ?_
          show Go p.tables e below s₁ (mkF m 80 #[.val (.long p1), .second, .val (.int p2), .val (.int (p2 &&& (3 : Int32))), .val (.long ((4294967295 : Int64) - (p1 &&& (1 : Int64)))), .second, .val (.int (1 : Int32)), .unset] [(.long ((4294967295 : Int64) - (p1 &&& (1 : Int64))))]) _
          refine go1 (fun _ => XS.lconst X0.here hx rfl (hb hby at_80)) ?_
          show Go p.tables e below s₁ (mkF m 81 #[.val (.long p1), .second, .val (.int p2), .val (.int (p2 &&& (3 : Int32))), .val (.long ((4294967295 : Int64) - (p1 &&& (1 : Int64)))), .second, .val (.int (1 : Int32)), .unset] [(.long (0 : Int64)), (.long ((4294967295 : Int64) - (p1 &&& (1 : Int64))))]) _
          refine go1 (fun _ => XS.lcmp X0.here hx rfl (hb hby at_81) rfl) ?_
          show Go p.tables e below s₁ (mkF m 82 #[.val (.long p1), .second, .val (.int p2), .val (.int (p2 &&& (3 : Int32))), .val (.long ((4294967295 : Int64) - (p1 &&& (1 : Int64)))), .second, .val (.int (1 : Int32)), .unset] [(.int (lcmpW ((4294967295 : Int64) - (p1 &&& (1 : Int64))) (0 : Int64)))]) _
          by_cases hc38 : (0 : Int64) < ((4294967295 : Int64) - (p1 &&& (1 : Int64)))
          · skip
            refine go1 (fun _ => XS.ifNo X0.here hx rfl (hb hby at_82) rfl ((if0 _ _).trans (tlt ((lw_gt _ _).mpr hc38)).2.2.2)) ?_
            show Go p.tables e below s₁ (mkF m 85 #[.val (.long p1), .second, .val (.int p2), .val (.int (p2 &&& (3 : Int32))), .val (.long ((4294967295 : Int64) - (p1 &&& (1 : Int64)))), .second, .val (.int (1 : Int32)), .unset] []) _
            refine go1 (fun _ => XS.iload X0.here hx rfl (hb hby at_85) rfl) ?_
            show Go p.tables e below s₁ (mkF m 87 #[.val (.long p1), .second, .val (.int p2), .val (.int (p2 &&& (3 : Int32))), .val (.long ((4294967295 : Int64) - (p1 &&& (1 : Int64)))), .second, .val (.int (1 : Int32)), .unset] [(.int (1 : Int32))]) _
            refine go1 (fun _ => XS.ifNo X0.here hx rfl (hb hby at_87) rfl ((if0 _ _).trans (feq (by decide : ¬ ((1 : Int32) = (0 : Int32)))).1)) ?_
            show Go p.tables e below s₁ (mkF m 90 #[.val (.long p1), .second, .val (.int p2), .val (.int (p2 &&& (3 : Int32))), .val (.long ((4294967295 : Int64) - (p1 &&& (1 : Int64)))), .second, .val (.int (1 : Int32)), .unset] []) _
            refine go1 (fun _ => XS.iconst X0.here hx rfl (hb hby at_90)) ?_
            show Go p.tables e below s₁ (mkF m 91 #[.val (.long p1), .second, .val (.int p2), .val (.int (p2 &&& (3 : Int32))), .val (.long ((4294967295 : Int64) - (p1 &&& (1 : Int64)))), .second, .val (.int (1 : Int32)), .unset] [(.int (1 : Int32))]) _
            refine go1 (fun _ => XS.goto X0.here hx rfl (pc0 := 91) (pc' := 95) rfl (hb hby at_91) (by decide) (by decide)) ?_
            show Go p.tables e below s₁ (mkF m 95 #[.val (.long p1), .second, .val (.int p2), .val (.int (p2 &&& (3 : Int32))), .val (.long ((4294967295 : Int64) - (p1 &&& (1 : Int64)))), .second, .val (.int (1 : Int32)), .unset] [(.int (1 : Int32))]) _
            refine go1 (fun _ => XS.istore X0.here hx rfl (hb hby at_95) rfl (l' := #[.val (.long p1), .second, .val (.int p2), .val (.int (p2 &&& (3 : Int32))), .val (.long ((4294967295 : Int64) - (p1 &&& (1 : Int64)))), .second, .val (.int (1 : Int32)), .val (.int (1 : Int32))]) rfl) ?_
            show Go p.tables e below s₁ (mkF m 97 #[.val (.long p1), .second, .val (.int p2), .val (.int (p2 &&& (3 : Int32))), .val (.long ((4294967295 : Int64) - (p1 &&& (1 : Int64)))), .second, .val (.int (1 : Int32)), .val (.int (1 : Int32))] []) _
            refine go1 (fun _ => XS.lload X0.here hx rfl (hb hby at_97) rfl) ?_
            show Go p.tables e below s₁ (mkF m 99 #[.val (.long p1), .second, .val (.int p2), .val (.int (p2 &&& (3 : Int32))), .val (.long ((4294967295 : Int64) - (p1 &&& (1 : Int64)))), .second, .val (.int (1 : Int32)), .val (.int (1 : Int32))] [(.long ((4294967295 : Int64) - (p1 &&& (1 : Int64))))]) _
            obtain ⟨_, _, ⟨T39, L39, k39, n39⟩, -, X39, ⟨Lc39, hQ39, l39, y39, z39⟩, st39⟩ := Jvm.LawKit.callS X0 hx (y := (⟨"com/example/stubwright/stubwright/mapping/JavaTypes", "isChecked", "(J)Z"⟩ : MethodName)) hown (mvT hZ (hw _ (List.mem_of_getElem? (i := 1) rfl))) (mvT hZ (hw _ (List.mem_of_getElem? (i := 2) rfl))) (mvT hZ (hw _ (List.mem_of_getElem? (i := 3) rfl))) (mvT hZ (hw _ (List.mem_of_getElem? (i := 4) rfl))) (by decide) (backOf (W := 0) (rm1 l Z a0 hw [] ((4294967295 : Int64) - (p1 &&& (1 : Int64))) h0 n0 Z0 ) hZ (hw _ (List.mem_of_getElem? (i := 4) rfl)) (hw _ (List.mem_of_getElem? (i := 3) rfl)) (by decide) (by decide)) (g := (mkF m 99 #[.val (.long p1), .second, .val (.int p2), .val (.int (p2 &&& (3 : Int32))), .val (.long ((4294967295 : Int64) - (p1 &&& (1 : Int64)))), .second, .val (.int (1 : Int32)), .val (.int (1 : Int32))] [(.long ((4294967295 : Int64) - (p1 &&& (1 : Int64))))])) rfl (by rw [hml]; rfl) (argsL := [(.long ((4294967295 : Int64) - (p1 &&& (1 : Int64))))]) (rest := []) (lenOf pd0_0 rfl) rfl (by show 2 * 0 + _ ≤ _; exact Nat.le_of_eq rfl) (hb hby at_99) (fun _ _ => ⟨rfl, e0, (by decide : 0 + 0 ≤ _), (by decide : 0 + 0 ≤ _)⟩)
            dsimp only [Pt.U, Pt.locs, Pt.cells, Pt.slots] at X39 l39 y39 z39 st39 hQ39
            subst l39 y39 z39
            obtain ⟨rfl, N39q, e39⟩ := hQ39
            have N39 := Fr.app N0 N39q
            refine go1 st39 ?_
            show Go p.tables e below T39 (mkF m 102 #[.val (.long p1), .second, .val (.int p2), .val (.int (p2 &&& (3 : Int32))), .val (.long ((4294967295 : Int64) - (p1 &&& (1 : Int64)))), .second, .val (.int (1 : Int32)), .val (.int (1 : Int32))] [(.int (own_1 ((4294967295 : Int64) - (p1 &&& (1 : Int64)))))]) _
            refine go1 (fun _ => XS.iload X39.here hx rfl (hb hby at_102) rfl) ?_
            show Go p.tables e below T39 (mkF m 104 #[.val (.long p1), .second, .val (.int p2), .val (.int (p2 &&& (3 : Int32))), .val (.long ((4294967295 : Int64) - (p1 &&& (1 : Int64)))), .second, .val (.int (1 : Int32)), .val (.int (1 : Int32))] [(.int (1 : Int32)), (.int (own_1 ((4294967295 : Int64) - (p1 &&& (1 : Int64)))))]) _
            by_cases hc40 : (own_1 ((4294967295 : Int64) - (p1 &&& (1 : Int64)))) = (1 : Int32)
            · skip
              refine go1 (fun _ => XS.icmpNo X39.here hx rfl (hb hby at_104) rfl (teq hc40).2) ?_
              show Go p.tables e below T39 (mkF m 107 #[.val (.long p1), .second, .val (.int p2), .val (.int (p2 &&& (3 : Int32))), .val (.long ((4294967295 : Int64) - (p1 &&& (1 : Int64)))), .second, .val (.int (1 : Int32)), .val (.int (1 : Int32))] []) _
              refine go1 (fun _ => XS.iconst X39.here hx rfl (hb hby at_107)) ?_
              show Go p.tables e below T39 (mkF m 108 #[.val (.long p1), .second, .val (.int p2), .val (.int (p2 &&& (3 : Int32))), .val (.long ((4294967295 : Int64) - (p1 &&& (1 : Int64)))), .second, .val (.int (1 : Int32)), .val (.int (1 : Int32))] [(.int (1 : Int32))]) _
              refine go1 (fun _ => XS.goto X39.here hx rfl (pc0 := 108) (pc' := 112) rfl (hb hby at_108) (by decide) (by decide)) ?_
              show Go p.tables e below T39 (mkF m 112 #[.val (.long p1), .second, .val (.int p2), .val (.int (p2 &&& (3 : Int32))), .val (.long ((4294967295 : Int64) - (p1 &&& (1 : Int64)))), .second, .val (.int (1 : Int32)), .val (.int (1 : Int32))] [(.int (1 : Int32))]) _
              refine goR X39 (BodyLoose.notSynchronized Bd) (v := (some (.int (1 : Int32)))) (fun h => by rw [Bd.returns] at h; cases h) (Q0 Z p1 p2 h0 n0) (fun fs hr => retN X39 hx (t := .boolean) Bd.returns (by simp) (hb hby at_112) hr) (by decide) (by decide) ?_
              show Q0 Z p1 p2 h0 n0 _ T39.heap _
              rw [e39]
              exact ⟨(by rw [own_0, if_neg hc1, if_neg hc13, if_neg hc25, if_pos hc37, if_pos hc38, if_pos hc40]), N39⟩
            · skip
              refine go1 (fun _ => XS.icmpYes X39.here hx rfl (pc0 := 104) (pc' := 111) rfl (hb hby at_104) rfl (feq hc40).2 (by decide) (by decide)) ?_
              show Go p.tables e below T39 (mkF m 111 #[.val (.long p1), .second, .val (.int p2), .val (.int (p2 &&& (3 : Int32))), .val (.long ((4294967295 : Int64) - (p1 &&& (1 : Int64)))), .second, .val (.int (1 : Int32)), .val (.int (1 : Int32))] []) _
              refine go1 (fun _ => XS.iconst X39.here hx rfl (hb hby at_111)) ?_
              show Go p.tables e below T39 (mkF m 112 #[.val (.long p1), .second, .val (.int p2), .val (.int (p2 &&& (3 : Int32))), .val (.long ((4294967295 : Int64) - (p1 &&& (1 : Int64)))), .second, .val (.int (1 : Int32)), .val (.int (1 : Int32))] [(.int (0 : Int32))]) _
              refine goR X39 (BodyLoose.notSynchronized Bd) (v := (some (.int (0 : Int32)))) (fun h => by rw [Bd.returns] at h; cases h) (Q0 Z p1 p2 h0 n0) (fun fs hr => retN X39 hx (t := .boolean) Bd.returns (by simp) (hb hby at_112) hr) (by decide) (by decide) ?_
              show Q0 Z p1 p2 h0 n0 _ T39.heap _
              rw [e39]
              exact ⟨(by rw [own_0, if_neg hc1, if_neg hc13, if_neg hc25, if_pos hc37, if_pos hc38, if_neg hc40]), N39⟩
          · skip
            refine go1 (fun _ => XS.ifYes X0.here hx rfl (pc0 := 82) (pc' := 94) rfl (hb hby at_82) rfl ((if0 _ _).trans (flt (mt (lw_gt _ _).mp hc38)).2.2.2) (by decide) (by decide)) ?_
            show Go p.tables e below s₁ (mkF m 94 #[.val (.long p1), .second, .val (.int p2), .val (.int (p2 &&& (3 : Int32))), .val (.long ((4294967295 : Int64) - (p1 &&& (1 : Int64)))), .second, .val (.int (1 : Int32)), .unset] []) _
            refine go1 (fun _ => XS.iconst X0.here hx rfl (hb hby at_94)) ?_
            show Go p.tables e below s₁ (mkF m 95 #[.val (.long p1), .second, .val (.int p2), .val (.int (p2 &&& (3 : Int32))), .val (.long ((4294967295 : Int64) - (p1 &&& (1 : Int64)))), .second, .val (.int (1 : Int32)), .unset] [(.int (0 : Int32))]) _
            refine go1 (fun _ => XS.istore X0.here hx rfl (hb hby at_95) rfl (l' := #[.val (.long p1), .second, .val (.int p2), .val (.int (p2 &&& (3 : Int32))), .val (.long ((4294967295 : Int64) - (p1 &&& (1 : Int64)))), .second, .val (.int (1 : Int32)), .val (.int (0 : Int32))]) rfl) ?_
            show Go p.tables e below s₁ (mkF m 97 #[.val (.long p1), .second, .val (.int p2), .val (.int (p2 &&& (3 : Int32))), .val (.long ((4294967295 : Int64) - (p1 &&& (1 : Int64)))), .second, .val (.int (1 : Int32)), .val (.int (0 : Int32))] []) _
            refine go1 (fun _ => XS.lload X0.here hx rfl (hb hby at_97) rfl) ?_
            show Go p.tables e below s₁ (mkF m 99 #[.val (.long p1), .second, .val (.int p2), .val (.int (p2 &&& (3 : Int32))), .val (.long ((4294967295 : Int64) - (p1 &&& (1 : Int64)))), .second, .val (.int (1 : Int32)), .val (.int (0 : Int32))] [(.long ((4294967295 : Int64) - (p1 &&& (1 : Int64))))]) _
            obtain ⟨_, _, ⟨T41, L41, k41, n41⟩, -, X41, ⟨Lc41, hQ41, l41, y41, z41⟩, st41⟩ := Jvm.LawKit.callS X0 hx (y := (⟨"com/example/stubwright/stubwright/mapping/JavaTypes", "isChecked", "(J)Z"⟩ : MethodName)) hown (mvT hZ (hw _ (List.mem_of_getElem? (i := 1) rfl))) (mvT hZ (hw _ (List.mem_of_getElem? (i := 2) rfl))) (mvT hZ (hw _ (List.mem_of_getElem? (i := 3) rfl))) (mvT hZ (hw _ (List.mem_of_getElem? (i := 4) rfl))) (by decide) (backOf (W := 0) (rm1 l Z a0 hw [] ((4294967295 : Int64) - (p1 &&& (1 : Int64))) h0 n0 Z0 ) hZ (hw _ (List.mem_of_getElem? (i := 4) rfl)) (hw _ (List.mem_of_getElem? (i := 3) rfl)) (by decide) (by decide)) (g := (mkF m 99 #[.val (.long p1), .second, .val (.int p2), .val (.int (p2 &&& (3 : Int32))), .val (.long ((4294967295 : Int64) - (p1 &&& (1 : Int64)))), .second, .val (.int (1 : Int32)), .val (.int (0 : Int32))] [(.long ((4294967295 : Int64) - (p1 &&& (1 : Int64))))])) rfl (by rw [hml]; rfl) (argsL := [(.long ((4294967295 : Int64) - (p1 &&& (1 : Int64))))]) (rest := []) (lenOf pd0_0 rfl) rfl (by show 2 * 0 + _ ≤ _; exact Nat.le_of_eq rfl) (hb hby at_99) (fun _ _ => ⟨rfl, e0, (by decide : 0 + 0 ≤ _), (by decide : 0 + 0 ≤ _)⟩)
            dsimp only [Pt.U, Pt.locs, Pt.cells, Pt.slots] at X41 l41 y41 z41 st41 hQ41
            subst l41 y41 z41
            obtain ⟨rfl, N41q, e41⟩ := hQ41
            have N41 := Fr.app N0 N41q
            refine go1 st41 ?_
            show Go p.tables e below T41 (mkF m 102 #[.val (.long p1), .second, .val (.int p2), .val (.int (p2 &&& (3 : Int32))), .val (.long ((4294967295 : Int64) - (p1 &&& (1 : Int64)))), .second, .val (.int (1 : Int32)), .val (.int (0 : Int32))] [(.int (own_1 ((4294967295 : Int64) - (p1 &&& (1 : Int64)))))]) _
            refine go1 (fun _ => XS.iload X41.here hx rfl (hb hby at_102) rfl) ?_
            show Go p.tables e below T41 (mkF m 104 #[.val (.long p1), .second, .val (.int p2), .val (.int (p2 &&& (3 : Int32))), .val (.long ((4294967295 : Int64) - (p1 &&& (1 : Int64)))), .second, .val (.int (1 : Int32)), .val (.int (0 : Int32))] [(.int (0 : Int32)), (.int (own_1 ((4294967295 : Int64) - (p1 &&& (1 : Int64)))))]) _
            by_cases hc42 : (own_1 ((4294967295 : Int64) - (p1 &&& (1 : Int64)))) = (0 : Int32)
            · skip
              refine go1 (fun _ => XS.icmpNo X41.here hx rfl (hb hby at_104) rfl (teq hc42).2) ?_
              show Go p.tables e below T41 (mkF m 107 #[.val (.long p1), .second, .val (.int p2), .val (.int (p2 &&& (3 : Int32))), .val (.long ((4294967295 : Int64) - (p1 &&& (1 : Int64)))), .second, .val (.int (1 : Int32)), .val (.int (0 : Int32))] []) _
              refine go1 (fun _ => XS.iconst X41.here hx rfl (hb hby at_107)) ?_
              show Go p.tables e below T41 (mkF m 108 #[.val (.long p1), .second, .val (.int p2), .val (.int (p2 &&& (3 : Int32))), .val (.long ((4294967295 : Int64) - (p1 &&& (1 : Int64)))), .second, .val (.int (1 : Int32)), .val (.int (0 : Int32))] [(.int (1 : Int32))]) _
              refine go1 (fun _ => XS.goto X41.here hx rfl (pc0 := 108) (pc' := 112) rfl (hb hby at_108) (by decide) (by decide)) ?_
              show Go p.tables e below T41 (mkF m 112 #[.val (.long p1), .second, .val (.int p2), .val (.int (p2 &&& (3 : Int32))), .val (.long ((4294967295 : Int64) - (p1 &&& (1 : Int64)))), .second, .val (.int (1 : Int32)), .val (.int (0 : Int32))] [(.int (1 : Int32))]) _
              refine goR X41 (BodyLoose.notSynchronized Bd) (v := (some (.int (1 : Int32)))) (fun h => by rw [Bd.returns] at h; cases h) (Q0 Z p1 p2 h0 n0) (fun fs hr => retN X41 hx (t := .boolean) Bd.returns (by simp) (hb hby at_112) hr) (by decide) (by decide) ?_
              show Q0 Z p1 p2 h0 n0 _ T41.heap _
              rw [e41]
              exact ⟨(by rw [own_0, if_neg hc1, if_neg hc13, if_neg hc25, if_pos hc37, if_neg hc38, if_pos hc42]), N41⟩
            · skip
              refine go1 (fun _ => XS.icmpYes X41.here hx rfl (pc0 := 104) (pc' := 111) rfl (hb hby at_104) rfl (feq hc42).2 (by decide) (by decide)) ?_
              show Go p.tables e below T41 (mkF m 111 #[.val (.long p1), .second, .val (.int p2), .val (.int (p2 &&& (3 : Int32))), .val (.long ((4294967295 : Int64) - (p1 &&& (1 : Int64)))), .second, .val (.int (1 : Int32)), .val (.int (0 : Int32))] []) _
              refine go1 (fun _ => XS.iconst X41.here hx rfl (hb hby at_111)) ?_
              show Go p.tables e below T41 (mkF m 112 #[.val (.long p1), .second, .val (.int p2), .val (.int (p2 &&& (3 : Int32))), .val (.long ((4294967295 : Int64) - (p1 &&& (1 : Int64)))), .second, .val (.int (1 : Int32)), .val (.int (0 : Int32))] [(.int (0 : Int32))]) _
              refine goR X41 (BodyLoose.notSynchronized Bd) (v := (some (.int (0 : Int32)))) (fun h => by rw [Bd.returns] at h; cases h) (Q0 Z p1 p2 h0 n0) (fun fs hr => retN X41 hx (t := .boolean) Bd.returns (by simp) (hb hby at_112) hr) (by decide) (by decide) ?_
              show Q0 Z p1 p2 h0 n0 _ T41.heap _
              rw [e41]
              exact ⟨(by rw [own_0, if_neg hc1, if_neg hc13, if_neg hc25, if_pos hc37, if_neg hc38, if_neg hc42]), N41⟩
        · skip
          refine go1 (fun _ => XS.ifYes X0.here hx rfl (pc0 := 68) (pc' := 75) rfl (hb hby at_68) rfl ((if0 _ _).trans (feq (mt (lw_eq _ _).mp hc37)).2) (by decide) (by decide)) ?_
          show Go p.tables e below s₁ (mkF m 75 #[.val (.long p1), .second, .val (.int p2), .val (.int (p2 &&& (3 : Int32))), .val (.long ((4294967295 : Int64) - (p1 &&& (1 : Int64)))), .second, .unset, .unset] []) _
          refine go1 (fun _ => XS.iconst X0.here hx rfl (hb hby at_75)) ?_
          show Go p.tables e below s₁ (mkF m 76 #[.val (.long p1), .second, .val (.int p2), .val (.int (p2 &&& (3 : Int32))), .val (.long ((4294967295 : Int64) - (p1 &&& (1 : Int64)))), .second, .unset, .unset] [(.int (0 : Int32))]) _
          refine go1 (fun _ => XS.istore X0.here hx rfl (hb hby at_76) rfl (l' := #[.val (.long p1), .second, .val (.int p2), .val (.int (p2 &&& (3 : Int32))), .val (.long ((4294967295 : Int64) - (p1 &&& (1 : Int64)))), .second, .val (.int (0 : Int32)), .unset]) rfl) ?_
          show Go p.tables e below s₁ (mkF m 78 #[.val (.long p1), .second, .val (.int p2), .val (.int (p2 &&& (3 : Int32))), .val (.long ((4294967295 : Int64) - (p1 &&& (1 : Int64)))), .second, .val (.int (0 : Int32)), .unset] []) _
          refine go1 (fun _ => XS.lload X0.here hx rfl (hb hby at_78) rfl) ?_
          show Go p.tables e below s₁ (mkF m 80 #[.val (.long p1), .second, .val (.int p2), .val (.int (p2 &&& (3 : Int32))), .val (.long ((4294967295 : Int64) - (p1 &&& (1 : Int64)))), .second, .val (.int (0 : Int32)), .unset] [(.long ((4294967295 : Int64) - (p1 &&& (1 : Int64))))]) _
          refine go1 (fun _ => XS.lconst X0.here hx rfl (hb hby at_80)) ?_
          show Go p.tables e below s₁ (mkF m 81 #[.val (.long p1), .second, .val (.int p2), .val (.int (p2 &&& (3 : Int32))), .val (.long ((4294967295 : Int64) - (p1 &&& (1 : Int64)))), .second, .val (.int (0 : Int32)), .unset] [(.long (0 : Int64)), (.long ((4294967295 : Int64) - (p1 &&& (1 : Int64))))]) _
          refine go1 (fun _ => XS.lcmp X0.here hx rfl (hb hby at_81) rfl) ?_
          show Go p.tables e below s₁ (mkF m 82 #[.val (.long p1), .second, .val (.int p2), .val (.int (p2 &&& (3 : Int32))), .val (.long ((4294967295 : Int64) - (p1 &&& (1 : Int64)))), .second, .val (.int (0 : Int32)), .unset] [(.int (lcmpW ((4294967295 : Int64) - (p1 &&& (1 : Int64))) (0 : Int64)))]) _
          by_cases hc43 : (0 : Int64) < ((4294967295 : Int64) - (p1 &&& (1 : Int64)))
          · skip
            refine go1 (fun _ => XS.ifNo X0.here hx rfl (hb hby at_82) rfl ((if0 _ _).trans (tlt ((lw_gt _ _).mpr hc43)).2.2.2)) ?_
            show Go p.tables e below s₁ (mkF m 85 #[.val (.long p1), .second, .val (.int p2), .val (.int (p2 &&& (3 : Int32))), .val (.long ((4294967295 : Int64) - (p1 &&& (1 : Int64)))), .second, .val (.int (0 : Int32)), .unset] []) _
            refine go1 (fun _ => XS.iload X0.here hx rfl (hb hby at_85) rfl) ?_
            show Go p.tables e below s₁ (mkF m 87 #[.val (.long p1), .second, .val (.int p2), .val (.int (p2 &&& (3 : Int32))), .val (.long ((4294967295 : Int64) - (p1 &&& (1 : Int64)))), .second, .val (.int (0 : Int32)), .unset] [(.int (0 : Int32))]) _
            refine go1 (fun _ => XS.ifYes X0.here hx rfl (pc0 := 87) (pc' := 94) rfl (hb hby at_87) rfl ((if0 _ _).trans (teq (by decide : (0 : Int32) = (0 : Int32))).1) (by decide) (by decide)) ?_
            show Go p.tables e below s₁ (mkF m 94 #[.val (.long p1), .second, .val (.int p2), .val (.int (p2 &&& (3 : Int32))), .val (.long ((4294967295 : Int64) - (p1 &&& (1 : Int64)))), .second, .val (.int (0 : Int32)), .unset] []) _
            refine go1 (fun _ => XS.iconst X0.here hx rfl (hb hby at_94)) ?_
            show Go p.tables e below s₁ (mkF m 95 #[.val (.long p1), .second, .val (.int p2), .val (.int (p2 &&& (3 : Int32))), .val (.long ((4294967295 : Int64) - (p1 &&& (1 : Int64)))), .second, .val (.int (0 : Int32)), .unset] [(.int (0 : Int32))]) _
            refine go1 (fun _ => XS.istore X0.here hx rfl (hb hby at_95) rfl (l' := #[.val (.long p1), .second, .val (.int p2), .val (.int (p2 &&& (3 : Int32))), .val (.long ((4294967295 : Int64) - (p1 &&& (1 : Int64)))), .second, .val (.int (0 : Int32)), .val (.int (0 : Int32))]) rfl) ?_
            show Go p.tables e below s₁ (mkF m 97 #[.val (.long p1), .second, .val (.int p2), .val (.int (p2 &&& (3 : Int32))), .val (.long ((4294967295 : Int64) - (p1 &&& (1 : Int64)))), .second, .val (.int (0 : Int32)), .val (.int (0 : Int32))] []) _
            refine go1 (fun _ => XS.lload X0.here hx rfl (hb hby at_97) rfl) ?_
            show Go p.tables e below s₁ (mkF m 99 #[.val (.long p1), .second, .val (.int p2), .val (.int (p2 &&& (3 : Int32))), .val (.long ((4294967295 : Int64) - (p1 &&& (1 : Int64)))), .second, .val (.int (0 : Int32)), .val (.int (0 : Int32))] [(.long ((4294967295 : Int64) - (p1 &&& (1 : Int64))))]) _
            obtain ⟨_, _, ⟨T44, L44, k44, n44⟩, -, X44, ⟨Lc44, hQ44, l44, y44, z44⟩, st44⟩ := Jvm.LawKit.callS X0 hx (y := (⟨"com/example/stubwright/stubwright/mapping/JavaTypes", "isChecked", "(J)Z"⟩ : MethodName)) hown (mvT hZ (hw _ (List.mem_of_getElem? (i := 1) rfl))) (mvT hZ (hw _ (List.mem_of_getElem? (i := 2) rfl))) (mvT hZ (hw _ (List.mem_of_getElem? (i := 3) rfl))) (mvT hZ (hw _ (List.mem_of_getElem? (i := 4) rfl))) (by decide) (backOf (W := 0) (rm1 l Z a0 hw [] ((4294967295 : Int64) - (p1 &&& (1 : Int64))) h0 n0 Z0 ) hZ (hw _ (List.mem_of_getElem? (i := 4) rfl)) (hw _ (List.mem_of_getElem? (i := 3) rfl)) (by decide) (by decide)) (g := (mkF m 99 #[.val (.long p1), .second, .val (.int p2), .val (.int (p2 &&& (3 : Int32))), .val (.long ((4294967295 : Int64) - (p1 &&& (1 : Int64)))), .second, .val (.int (0 : Int32)), .val (.int (0 : Int32))] [(.long ((4294967295 : Int64) - (p1 &&& (1 : Int64))))])) rfl (by rw [hml]; rfl) (argsL := [(.long ((4294967295 : Int64) - (p1 &&& (1 : Int64))))]) (rest := []) (lenOf pd0_0 rfl) rfl (by show 2 * 0 + _ ≤ _; exact Nat.le_of_eq rfl) (hb hby at_99) (fun _ _ => ⟨rfl, e0, (by decide : 0 + 0 ≤ _), (by decide : 0 + 0 ≤ _)⟩)
            dsimp only [Pt.U, Pt.locs, Pt.cells, Pt.slots] at X44 l44 y44 z44 st44 hQ44
            subst l44 y44 z44
            obtain ⟨rfl, N44q, e44⟩ := hQ44
            have N44 := Fr.app N0 N44q
            refine go1 st44 ?_
            show Go p.tables e below T44 (mkF m 102 #[.val (.long p1), .second, .val (.int p2), .val (.int (p2 &&& (3 : Int32))), .val (.long ((4294967295 : Int64) - (p1 &&& (1 : Int64)))), .second, .val (.int (0 : Int32)), .val (.int (0 : Int32))] [(.int (own_1 ((4294967295 : Int64) - (p1 &&& (1 : Int64)))))]) _
            refine go1 (fun _ => XS.iload X44.here hx rfl (hb hby at_102) rfl) ?_
            show Go p.tables e below T44 (mkF m 104 #[.val (.long p1), .second, .val (.int p2), .val (.int (p2 &&& (3 : Int32))), .val (.long ((4294967295 : Int64) - (p1 &&& (1 : Int64)))), .second, .val (.int (0 : Int32)), .val (.int (0 : Int32))] [(.int (0 : Int32)), (.int (own_1 ((4294967295 : Int64) - (p1 &&& (1 : Int64)))))]) _
            by_cases hc45 : (own_1 ((4294967295 : Int64) - (p1 &&& (1 : Int64)))) = (0 : Int32)
            · skip
              refine go1 (fun _ => XS.icmpNo X44.here hx rfl (hb hby at_104) rfl (teq hc45).2) ?_
              show Go p.tables e below T44 (mkF m 107 #[.val (.long p1), .second, .val (.int p2), .val (.int (p2 &&& (3 : Int32))), .val (.long ((4294967295 : Int64) - (p1 &&& (1 : Int64)))), .second, .val (.int (0 : Int32)), .val (.int (0 : Int32))] []) _
              refine go1 (fun _ => XS.iconst X44.here hx rfl (hb hby at_107)) ?_
              show Go p.tables e below T44 (mkF m 108 #[.val (.long p1), .second, .val (.int p2), .val (.int (p2 &&& (3 : Int32))), .val (.long ((4294967295 : Int64) - (p1 &&& (1 : Int64)))), .second, .val (.int (0 : Int32)), .val (.int (0 : Int32))] [(.int (1 : Int32))]) _
              refine go1 (fun _ => XS.goto X44.here hx rfl (pc0 := 108) (pc' := 112) rfl (hb hby at_108) (by decide) (by decide)) ?_
              show Go p.tables e below T44 (mkF m 112 #[.val (.long p1), .second, .val (.int p2), .val (.int (p2 &&& (3 : Int32))), .val (.long ((4294967295 : Int64) - (p1 &&& (1 : Int64)))), .second, .val (.int (0 : Int32)), .val (.int (0 : Int32))] [(.int (1 : Int32))]) _
              refine goR X44 (BodyLoose.notSynchronized Bd) (v := (some (.int (1 : Int32)))) (fun h => by rw [Bd.returns] at h; cases h) (Q0 Z p1 p2 h0 n0) (fun fs hr => retN X44 hx (t := .boolean) Bd.returns (by simp) (hb hby at_112) hr) (by decide) (by decide) ?_
              show Q0 Z p1 p2 h0 n0 _ T44.heap _
              rw [e44]
              exact ⟨(by rw [own_0, if_neg hc1, if_neg hc13, if_neg hc25, if_neg hc37, if_pos hc43, if_pos hc45]), N44⟩
            · skip
              refine go1 (fun _ => XS.icmpYes X44.here hx rfl (pc0 := 104) (pc' := 111) rfl (hb hby at_104) rfl (feq hc45).2 (by decide) (by decide)) ?_
              show Go p.tables e below T44 (mkF m 111 #[.val (.long p1), .second, .val (.int p2), .val (.int (p2 &&& (3 : Int32))), .val (.long ((4294967295 : Int64) - (p1 &&& (1 : Int64)))), .second, .val (.int (0 : Int32)), .val (.int (0 : Int32))] []) _
              refine go1 (fun _ => XS.iconst X44.here hx rfl (hb hby at_111)) ?_
              show Go p.tables e below T44 (mkF m 112 #[.val (.long p1), .second, .val (.int p2), .val (.int (p2 &&& (3 : Int32))), .val (.long ((4294967295 : Int64) - (p1 &&& (1 : Int64)))), .second, .val (.int (0 : Int32)), .val (.int (0 : Int32))] [(.int (0 : Int32))]) _
              refine goR X44 (BodyLoose.notSynchronized Bd) (v := (some (.int (0 : Int32)))) (fun h => by rw [Bd.returns] at h; cases h) (Q0 Z p1 p2 h0 n0) (fun fs hr => retN X44 hx (t := .boolean) Bd.returns (by simp) (hb hby at_112) hr) (by decide) (by decide) ?_
              show Q0 Z p1 p2 h0 n0 _ T44.heap _
              rw [e44]
              exact ⟨(by rw [own_0, if_neg hc1, if_neg hc13, if_neg hc25, if_neg hc37, if_pos hc43, if_neg hc45]), N44⟩
          · skip
            refine go1 (fun _ => XS.ifYes X0.here hx rfl (pc0 := 82) (pc' := 94) rfl (hb hby at_82) rfl ((if0 _ _).trans (flt (mt (lw_gt _ _).mp hc43)).2.2.2) (by decide) (by decide)) ?_
            show Go p.tables e below s₁ (mkF m 94 #[.val (.long p1), .second, .val (.int p2), .val (.int (p2 &&& (3 : Int32))), .val (.long ((4294967295 : Int64) - (p1 &&& (1 : Int64)))), .second, .val (.int (0 : Int32)), .unset] []) _
            refine go1 (fun _ => XS.iconst X0.here hx rfl (hb hby at_94)) ?_
            show Go p.tables e below s₁ (mkF m 95 #[.val (.long p1), .second, .val (.int p2), .val (.int (p2 &&& (3 : Int32))), .val (.long ((4294967295 : Int64) - (p1 &&& (1 : Int64)))), .second, .val (.int (0 : Int32)), .unset] [(.int (0 : Int32))]) _
            refine go1 (fun _ => XS.istore X0.here hx rfl (hb hby at_95) rfl (l' := #[.val (.long p1), .second, .val (.int p2), .val (.int (p2 &&& (3 : Int32))), .val (.long ((4294967295 : Int64) - (p1 &&& (1 : Int64)))), .second, .val (.int (0 : Int32)), .val (.int (0 : Int32))]) rfl) ?_
            show Go p.tables e below s₁ (mkF m 97 #[.val (.long p1), .second, .val (.int p2), .val (.int (p2 &&& (3 : Int32))), .val (.long ((4294967295 : Int64) - (p1 &&& (1 : Int64)))), .second, .val (.int (0 : Int32)), .val (.int (0 : Int32))] []) _
            refine go1 (fun _ => XS.lload X0.here hx rfl (hb hby at_97) rfl) ?_
            show Go p.tables e below s₁ (mkF m 99 #[.val (.long p1), .second, .val (.int p2), .val (.int (p2 &&& (3 : Int32))), .val (.long ((4294967295 : Int64) - (p1 &&& (1 : Int64)))), .second, .val (.int (0 : Int32)), .val (.int (0 : Int32))] [(.long ((4294967295 : Int64) - (p1 &&& (1 : Int64))))]) _
            obtain ⟨_, _, ⟨T46, L46, k46, n46⟩, -, X46, ⟨Lc46, hQ46, l46, y46, z46⟩, st46⟩ := Jvm.LawKit.callS X0 hx (y := (⟨"com/example/stubwright/stubwright/mapping/JavaTypes", "isChecked", "(J)Z"⟩ : MethodName)) hown (mvT hZ (hw _ (List.mem_of_getElem? (i := 1) rfl))) (mvT hZ (hw _ (List.mem_of_getElem? (i := 2) rfl))) (mvT hZ (hw _ (List.mem_of_getElem? (i := 3) rfl))) (mvT hZ (hw _ (List.mem_of_getElem? (i := 4) rfl))) (by decide) (backOf (W := 0) (rm1 l Z a0 hw [] ((4294967295 : Int64) - (p1 &&& (1 : Int64))) h0 n0 Z0 ) hZ (hw _ (List.mem_of_getElem? (i := 4) rfl)) (hw _ (List.mem_of_getElem? (i := 3) rfl)) (by decide) (by decide)) (g := (mkF m 99 #[.val (.long p1), .second, .val (.int p2), .val (.int (p2 &&& (3 : Int32))), .val (.long ((4294967295 : Int64) - (p1 &&& (1 : Int64)))), .second, .val (.int (0 : Int32)), .val (.int (0 : Int32))] [(.long ((4294967295 : Int64) - (p1 &&& (1 : Int64))))])) rfl (by rw [hml]; rfl) (argsL := [(.long ((4294967295 : Int64) - (p1 &&& (1 : Int64))))]) (rest := []) (lenOf pd0_0 rfl) rfl (by show 2 * 0 + _ ≤ _; exact Nat.le_of_eq rfl) (hb hby at_99) (fun _ _ => ⟨rfl, e0, (by decide : 0 + 0 ≤ _), (by decide : 0 + 0 ≤ _)⟩)
            dsimp only [Pt.U, Pt.locs, Pt.cells, Pt.slots] at X46 l46 y46 z46 st46 hQ46
            subst l46 y46 z46
            obtain ⟨rfl, N46q, e46⟩ := hQ46
            have N46 := Fr.app N0 N46q
            refine go1 st46 ?_
            show Go p.tables e below T46 (mkF m 102 #[.val (.long p1), .second, .val (.int p2), .val (.int (p2 &&& (3 : Int32))), .val (.long ((4294967295 : Int64) - (p1 &&& (1 : Int64)))), .second, .val (.int (0 : Int32)), .val (.int (0 : Int32))] [(.int (own_1 ((4294967295 : Int64) - (p1 &&& (1 : Int64)))))]) _
            refine go1 (fun _ => XS.iload X46.here hx rfl (hb hby at_102) rfl) ?_
            show Go p.tables e below T46 (mkF m 104 #[.val (.long p1), .second, .val (.int p2), .val (.int (p2 &&& (3 : Int32))), .val (.long ((4294967295 : Int64) - (p1 &&& (1 : Int64)))), .second, .val (.int (0 : Int32)), .val (.int (0 : Int32))] [(.int (0 : Int32)), (.int (own_1 ((4294967295 : Int64) - (p1 &&& (1 : Int64)))))]) _
            by_cases hc47 : (own_1 ((4294967295 : Int64) - (p1 &&& (1 : Int64)))) = (0 : Int32)
            · skip
              refine go1 (fun _ => XS.icmpNo X46.here hx rfl (hb hby at_104) rfl (teq hc47).2) ?_
              show Go p.tables e below T46 (mkF m 107 #[.val (.long p1), .second, .val (.int p2), .val (.int (p2 &&& (3 : Int32))), .val (.long ((4294967295 : Int64) - (p1 &&& (1 : Int64)))), .second, .val (.int (0 : Int32)), .val (.int (0 : Int32))] []) _
              refine go1 (fun _ => XS.iconst X46.here hx rfl (hb hby at_107)) ?_
              show Go p.tables e below T46 (mkF m 108 #[.val (.long p1), .second, .val (.int p2), .val (.int (p2 &&& (3 : Int32))), .val (.long ((4294967295 : Int64) - (p1 &&& (1 : Int64)))), .second, .val (.int (0 : Int32)), .val (.int (0 : Int32))] [(.int (1 : Int32))]) _
              refine go1 (fun _ => XS.goto X46.here hx rfl (pc0 := 108) (pc' := 112) rfl (hb hby at_108) (by decide) (by decide)) ?_
              show Go p.tables e below T46 (mkF m 112 #[.val (.long p1), .second, .val (.int p2), .val (.int (p2 &&& (3 : Int32))), .val (.long ((4294967295 : Int64) - (p1 &&& (1 : Int64)))), .second, .val (.int (0 : Int32)), .val (.int (0 : Int32))] [(.int (1 : Int32))]) _
              refine goR X46 (BodyLoose.notSynchronized Bd) (v := (some (.int (1 : Int32)))) (fun h => by rw [Bd.returns] at h; cases h) (Q0 Z p1 p2 h0 n0) (fun fs hr => retN X46 hx (t := .boolean) Bd.returns (by simp) (hb hby at_112) hr) (by decide) (by decide) ?_
              show Q0 Z p1 p2 h0 n0 _ T46.heap _
              rw [e46]
              exact ⟨(by rw [own_0, if_neg hc1, if_neg hc13, if_neg hc25, if_neg hc37, if_neg hc43, if_pos hc47]), N46⟩
            · skip
              refine go1 (fun _ => XS.icmpYes X46.here hx rfl (pc0 := 104) (pc' := 111) rfl (hb hby at_104) rfl (feq hc47).2 (by decide) (by decide)) ?_
              show Go p.tables e below T46 (mkF m 111 #[.val (.long p1), .second, .val (.int p2), .val (.int (p2 &&& (3 : Int32))), .val (.long ((4294967295 : Int64) - (p1 &&& (1 : Int64)))), .second, .val (.int (0 : Int32)), .val (.int (0 : Int32))] []) _
              refine go1 (fun _ => XS.iconst X46.here hx rfl (hb hby at_111)) ?_
              show Go p.tables e below T46 (mkF m 112 #[.val (.long p1), .second, .val (.int p2), .val (.int (p2 &&& (3 : Int32))), .val (.long ((4294967295 : Int64) - (p1 &&& (1 : Int64)))), .second, .val (.int (0 : Int32)), .val (.int (0 : Int32))] [(.int (0 : Int32))]) _
              refine goR X46 (BodyLoose.notSynchronized Bd) (v := (some (.int (0 : Int32)))) (fun h => by rw [Bd.returns] at h; cases h) (Q0 Z p1 p2 h0 n0) (fun fs hr => retN X46 hx (t := .boolean) Bd.returns (by simp) (hb hby at_112) hr) (by decide) (by decide) ?_
              show Q0 Z p1 p2 h0 n0 _ T46.heap _
              rw [e46]
              exact ⟨(by rw [own_0, if_neg hc1, if_neg hc13, if_neg hc25, if_neg hc37, if_neg hc43, if_neg hc47]), N46⟩
theorem own_F (b : Int64) : (
    if ((b.toInt32).toInt64) = b then
      if (0 : Int64) < b then
        if (own_1 b) = (1 : Int32) then
          (1 : Int32)
        else
          (0 : Int32)
      else
        if (own_1 b) = (0 : Int32) then
          (1 : Int32)
        else
          (0 : Int32)
    else
      if (0 : Int64) < b then
        if (own_1 b) = (0 : Int32) then
          (1 : Int32)
        else
          (0 : Int32)
      else
        if (own_1 b) = (0 : Int32) then
          (1 : Int32)
        else
          (0 : Int32)) = 1 := by
  have r := rng64 b
  have c1 := c_l2i b
  have c2 := c_i2l b.toInt32
  have r2 := rng32 b.toInt32
  have z0 : (0 : Int64).toInt = 0 := by decide
  have zm : (2147483647 : Int64).toInt = 2147483647 := by decide
  by_cases h1 : (0 : Int64) < b
  · have k1 := Int64.lt_iff_toInt_lt.mp h1
    by_cases h2 : (2147483647 : Int64) < b
    · have k2 := Int64.lt_iff_toInt_lt.mp h2
      have h3 : ¬ b.toInt32.toInt64 = b := by rw [← Int64.toInt_inj]; omega
      simp [own_1, h1, h2, h3]
    · have k2 := mt Int64.lt_iff_toInt_lt.mpr h2
      have h3 : b.toInt32.toInt64 = b := by rw [← Int64.toInt_inj]; omega
      simp [own_1, h1, h2, h3]
  · by_cases h3 : b.toInt32.toInt64 = b
    · simp [own_1, h1, h3]
    · simp [own_1, h1, h3]
theorem own_true (x : Int64) (k : Int32) : own_0 x k = 1 := by
  unfold own_0
  split
  · exact own_F _
  · split
    · exact own_F _
    · split
      · exact own_F _
      · exact own_F _
set_option maxRecDepth 65536 in
set_option maxHeartbeats 40000000 in
theorem comes_1 {Post : Tables → Env → Array Value → State → Outcome → State → Prop} (hpost : ∀ tb e args s v u, (limb_1_1.after args s (.returned v) u = true ∧ limb_1_2.after args s (.returned v) u = true ∧ True) → FrameEnd s (.returned v) u (Jvm.fieldLocs frame_1_writes args s ++ Jvm.arrayLocs frame_1_arrays args s ++ Jvm.staticLocs frame_1_statics s) 0 0 → Post tb e args s (.returned v) u) :
    ArmFor flags0 classFile x code maxLocals ret World_1 tables_1 room_1 Calls_1 rest_1 Pre_1 Post := by
  intro l hfl _ _ p e ha hc hk s m args below hf hA hF happ hP
  obtain ⟨hcalls, hrest, hpre⟩ := hP
  obtain ⟨-, -, -, hnamed, -, -, -, hat⟩ := (Spec.applies_iff hf).mp happ
  obtain ⟨hg, hn⟩ := and_e (Cond.before_iff.mp (show (Jvm.Cond.and given_1 narrow_1).before args s = true from hpre))
  obtain ⟨gc, q0⟩ := and_e hg
  obtain ⟨ga0, q1⟩ := and_e q0
  have ga1 := q1
  obtain ⟨w0, w1, rfl⟩ : ∃ w0 w1 : Value, args = #[w0, w1] := by
    have hs : args.size = 2 := by simpa [Cond.value, given_1] using gc
    obtain ⟨L⟩ := args
    match L, hs with
    | [w0, w1], _ => exact ⟨w0, w1, rfl⟩
  have hw := fun d (hd : d ∈ tables_1) => atoms_spec (ws := Jvm.Cond.code x code maxLocals ret :: tables_1) hat d (List.mem_cons_of_mem _ hd)
  have hfit : Fit s := fun {y c} hc i hi => by
    obtain ⟨ha, rfl⟩ := Array.getElem?_eq_some_iff.mp hc
    have q := List.all_eq_true.mp ((Array.all_eq_true_iff_forall_mem.mp hF) _ (Array.getElem_mem ha)) i (List.mem_range.mpr hi)
    simpa [Array.getElem?_eq_getElem hi] using q
  obtain ⟨i0, ei0⟩ := isL_v ga0
  obtain rfl : w0 = (.long i0) := Option.some.inj ei0
  obtain ⟨i1, ei1⟩ := is_v ga1
  obtain rfl : w1 = (.int i1) := Option.some.inj ei1
  obtain ⟨n, o, h1, h2, h3, _, L, rfl, ⟨hv, N⟩, hq⟩ := rm0 l s _ hw tables_1 i0 i1 s.heap s.heap.size (Nat.le_refl _) (Old.start s)  p e ha hc hk s m _ below hf ((Spec.applies_iff_loose hf).mp happ).1 ⟨rfl, State.Warmed39.refl s, rfl⟩ trivial
  rw [own_true] at hv
  subst hv
  refine ⟨n, _, h1, h2, h3, hpost _ _ _ _ _ _ ⟨Cond.after_iff.mpr rfl, Cond.after_iff.mpr (eq_i res_at (Term.int_eval (1)) rfl), trivial⟩ ⟨hq.1, hq.2.1, (hq.2.2.sift fun y hy => Or.inr (N y hy)).mono (by decide) (by decide)⟩⟩
theorem main_1_1 : Claimed_1_1 := comes_1 fun _ _ _ _ _ _ h hF => ⟨h.1, hF⟩
theorem main_1_2 : Claimed_1_2 := comes_1 fun _ _ _ _ _ _ h hF => ⟨h.2.1, hF⟩
end Jvm.Pilot.@@N@@
namespace Jvm.Pilot.@@N@@
open Jvm Jvm.ClassFile Sem Op Lib Jvm.Free Jvm.Stand Jvm.Pilot.@@N@@.Jvm.D
/-! MADE BY PROGRAM (witnessworld.py) out of the Statement's table words and the real class files: 9 classes; the members and pool entries that the words name. The judged class is class 1, her method 1. -/
namespace start1
open Jvm.ClassFile
def u (s : String) : CpInfo := .utf8 (stringToUtf16 s)
/-- a pool by its gaps: so many unusable entries, then the entry; so many at the end -/
def gap : Nat → List CpInfo → List CpInfo
  | 0, r => r
  | n + 1, r => .unusable :: gap n r
def poolList (es : List (Nat × CpInfo)) (last : Nat) : List CpInfo := es.foldr (fun e r => gap e.1 (e.2 :: r)) (gap last [])
def pool (es : List (Nat × CpInfo)) (last : Nat) : Array CpInfo := ⟨poolList es last⟩
def fileOf (pool : Array CpInfo) (this : Nat) (attrs : Array Attribute := #[]) (ms : Array MethodInfo := #[]) (fl : Nat := 33) (sup : Nat := 0) (ifs : Array Nat := #[]) (fds : Array FieldInfo := #[]) : ClassFile where
  minorVersion := 0
  majorVersion := 65
  constantPool := pool
  accessFlags := fl
  thisClass := this
  superClass := sup
  interfaces := ifs
  fields := fds
  methods := ms
  attributes := attrs
def plain (name : String) (sup : Option ClassId) : Class where
  name := name
  kind := .ordinary
  loader := none
  accessFlags := 33
  super := sup
  interfaces := #[]
  cf := none
  fields := #[]
  methods := #[]
  instanceTypes := #[]
  staticTypes := #[]
  resolved := #[]
  callSites := []
  init := .initialized
  statics := none
  mirror := none

def pool0 : Array CpInfo := pool [(5, u "<init>"), (0, u "()V"), (1, .class_ 10), (1, u "java/lang/Object")] 113

def k0m0 : Method := { name := "<init>", desc := "()V", sig := { parameters := [], returnType := none }, accessFlags := 1, code := none }
/-- java/lang/Object -/
def k0 : Class := { plain "java/lang/Object" none with
  accessFlags := 33
  interfaces := #[]
  cf := some (fileOf pool0 8 #[] #[{ accessFlags := 1, nameIndex := 5, descriptorIndex := 6, attributes := #[] }] 33 0 #[] #[])
  fields := #[]
  methods := #[k0m0]
  instanceTypes := #[]
  staticTypes := #[]
  resolved := Array.replicate 124 none
  statics := none }

def pool1 : Array CpInfo := pool [(2, .class_ 4), (1, u "java/lang/Object"), (0, u "<init>"), (0, u "()V"), (0, .long 2147483647), (1, .long 3), (1, .long 4294967295), (1, .methodref 14 15), (0, .class_ 16), (0, .nameAndType 17 18), (0, u "com/example/stubwright/stubwright/mapping/JavaTypes"), (0, u "isChecked"), (0, u "(J)Z"), (0, .class_ 20), (0, u "com/example/stubwright/stubwright/mapping/JavaTypesIsCheckedPinLaw"), (2, u "law"), (0, u "(JI)Z")] 3

def k1m0 : Method := { name := "<init>", desc := "()V", sig := { parameters := [], returnType := none }, accessFlags := 2, code := none }
def k1c1 : Code := { maxStack := 6, maxLocals := 8, code := code, exceptionTable := #[], attributes := #[] }
def k1m1 : Method := { name := "law", desc := "(JI)Z", sig := { parameters := [.long, .int], returnType := some .boolean }, accessFlags := 9, code := some k1c1 }
/-- com/example/stubwright/stubwright/mapping/JavaTypesIsCheckedPinLaw -/
def k1 : Class := { plain "com/example/stubwright/stubwright/mapping/JavaTypesIsCheckedPinLaw" (some 0) with
  accessFlags := 49
  interfaces := #[]
  cf := some (fileOf pool1 19 #[] #[{ accessFlags := 2, nameIndex := 5, descriptorIndex := 6, attributes := #[] }, { accessFlags := 9, nameIndex := 23, descriptorIndex := 24, attributes := #[] }] 49 2 #[] #[])
  fields := #[]
  methods := #[k1m0, k1m1]
  instanceTypes := #[]
  staticTypes := #[]
  resolved := Array.replicate 28 none
  statics := none }

def pool2 : Array CpInfo := pool [(8, .class_ 10), (1, u "com/example/stubwright/stubwright/mapping/JavaTypes"), (3, .class_ 16), (1, u "java/lang/Object"), (3, u "names"), (0, u "Lcom/example/stubwright/stubwright/mapping/JavaNames;"), (2, u "fieldsInScope"), (0, u "Ljava/util/Set;"), (157, .class_ 185), (1, u "com/example/stubwright/stubwright/mapping/JavaTypes$1"), (64, .long 2147483647), (4, u "SUPPRESS_STATIC"), (0, u "Ljava/lang/String;"), (23, u "isChecked"), (0, u "(J)Z")] 40

def k2c0 : Code := { maxStack := 4, maxLocals := 2, code := prog_56_method_17_code, exceptionTable := #[], attributes := #[] }
def k2m0 : Method := { name := "isChecked", desc := "(J)Z", sig := { parameters := [.long], returnType := some .boolean }, accessFlags := 8, code := some k2c0 }
/-- com/example/stubwright/stubwright/mapping/JavaTypes -/
def k2 : Class := { plain "com/example/stubwright/stubwright/mapping/JavaTypes" (some 0) with
  accessFlags := 48
  interfaces := #[]
  cf := some (fileOf pool2 8 #[.nestMembers #[183]] #[{ accessFlags := 8, nameIndex := 280, descriptorIndex := 281, attributes := #[] }] 48 14 #[] #[{ accessFlags := 24, nameIndex := 255, descriptorIndex := 256, attributes := #[] }, { accessFlags := 18, nameIndex := 20, descriptorIndex := 21, attributes := #[] }, { accessFlags := 18, nameIndex := 24, descriptorIndex := 25, attributes := #[] }])
  fields := #[{ name := "SUPPRESS_STATIC", type := (.object "java/lang/String"), accessFlags := 24, slot := 0, constantValue := 0 }, { name := "names", type := (.object "com/example/stubwright/stubwright/mapping/JavaNames"), accessFlags := 18, slot := 0, constantValue := 0 }, { name := "fieldsInScope", type := (.object "java/util/Set"), accessFlags := 18, slot := 1, constantValue := 0 }]
  methods := #[k2m0]
  instanceTypes := #[(.object "com/example/stubwright/stubwright/mapping/JavaNames"), (.object "java/util/Set")]
  staticTypes := #[(.object "java/lang/String")]
  resolved := Array.replicate 322 none
  statics := none }

def pool3 : Array CpInfo := pool [(1, u "java/lang/Cloneable"), (0, .class_ 1), (0, u "java/lang/Object"), (0, .class_ 3)] 3

/-- java/lang/Cloneable -/
def k3 : Class := { plain "java/lang/Cloneable" (some 0) with
  accessFlags := 1537
  interfaces := #[]
  cf := some (fileOf pool3 2 #[] #[] 1537 4 #[] #[])
  fields := #[]
  methods := #[]
  instanceTypes := #[]
  staticTypes := #[]
  resolved := Array.replicate 8 none
  statics := none }

def pool4 : Array CpInfo := pool [(1, u "java/io/Serializable"), (0, .class_ 1), (0, u "java/lang/Object"), (0, .class_ 3)] 3

/-- java/io/Serializable -/
def k4 : Class := { plain "java/io/Serializable" (some 0) with
  accessFlags := 1537
  interfaces := #[]
  cf := some (fileOf pool4 2 #[] #[] 1537 4 #[] #[])
  fields := #[]
  methods := #[]
  instanceTypes := #[]
  staticTypes := #[]
  resolved := Array.replicate 8 none
  statics := none }

/-- the primitive byte -/
def k5 : Class := { plain "byte" none with kind := .primitive 'B', accessFlags := 0x411 }
/-- [B -/
def k6 : Class := { plain "[B" (some 0) with kind := .array 5 .byte, interfaces := #[3, 4], accessFlags := 1041 }

/-- the primitive int -/
def k7 : Class := { plain "int" none with kind := .primitive 'I', accessFlags := 0x411 }
/-- [I -/
def k8 : Class := { plain "[I" (some 0) with kind := .array 7 .int, interfaces := #[3, 4], accessFlags := 1041 }

def heap : Heap := #[]
def classes : Array Class := #[k0, k1, k2, k3, k4, k5, k6, k7, k8]
def interned : List (Array UInt16 × Addr) := []
def slotsUsed : Nat := 0
def theMethod : MethodId := ⟨1, 1⟩
def args0 : Array Value := #[.long 5, .int 2]
def aboutOver (below : List Frame) : State where
  vm := { classes := classes, interned := interned.toArray }
  heap := heap
  slotsUsed := slotsUsed
  threads := #[{ frames := .invoking theMethod args0 :: below }]
def below0 : List Frame := [.native { method := ⟨0, 0⟩, args := #[] }]
def about1 : State := aboutOver below0
def p0 : Program := .bare "" "" ""
def e0 : Env := launch0.env 0 0 0
theorem w_frames : about1.frames = Frame.invoking theMethod args0 :: below0 := rfl
set_option maxRecDepth 65536 in
theorem w_args : argsFit about1.vm theMethod args0 = true := by decide +kernel
set_option maxRecDepth 65536 in
theorem w_heap : heapFits about1 = true := by decide +kernel
set_option maxRecDepth 65536 in
theorem w_runnable : about1.curStatus? = some .runnable := by decide +kernel
set_option maxRecDepth 65536 in
theorem w_alone : about1.alone = true := by decide +kernel
set_option maxRecDepth 65536 in
theorem w_named : about1.methodNamed? x = some theMethod := by decide +kernel
set_option maxRecDepth 65536 in
theorem w_hears : about1.hears theMethod below0 = true := by decide +kernel
set_option maxRecDepth 65536 in
theorem w_ripe : about1.ripe theMethod args0 below0 = true := by decide +kernel
theorem w_running : about1.status = .running := rfl
set_option maxRecDepth 65536 in
theorem w_room : about1.hasRoom e0.platform room_1 = true :=
  launch0.hasRoom_least _ room_1 (by decide +kernel) (by decide +kernel) (by decide +kernel) (by decide +kernel) (by decide +kernel) (by decide +kernel)
theorem allAtoms_all (ts : List Jvm.Cond) (a : Array Jvm.Value) (st : Jvm.State) : (allAtoms ts).before a st = ts.all (fun c => c.before a st) := by
  induction ts with
  | nil => rfl
  | cons c t ih =>
    show (Jvm.Cond.and c (allAtoms t)).before a st = _
    rw [Jvm.Cond.before_and, ih, List.all_cons]
def words1 : List Jvm.Cond := Jvm.Cond.code x code maxLocals ret :: tables_1
/-- a 'code' word, met by the world's own term for the bytes: nothing is compared byte by byte -/
theorem code_word {y : MethodName} {bytes : ByteArray} {mx : Nat} {rt : Option FieldType} {a : Array Value} {s : State} {m : MethodId} {meth : Method} {c : Code} (h1 : s.methodNamed? y = some m) (h2 : s.vm.method? m = some meth) (h3 : meth.code = some c) (h4 : c.code = bytes)
    (h5 : (c.maxLocals == mx && c.exceptionTable.isEmpty && decide (c.maxStack ≤ mostOperands) && decide (meth.sig.returnType = rt) && !meth.locks && decide (parseMethodDescriptor y.desc = some meth.sig)) = true) : (Jvm.Cond.code y bytes mx rt).before a s = true := by
  simp only [Bool.and_eq_true, beq_iff_eq, Bool.not_eq_true', decide_eq_true_eq] at h5
  obtain ⟨⟨⟨⟨⟨g1, g2⟩, g3⟩, g4⟩, g5⟩, g6⟩ := h5
  simp [Cond.before, Cond.holds, Cond.value, h1, h2, h3, h4, g1, g2, g3, g4, g5, g6]
def isCode : Jvm.Cond → Bool
  | .code _ _ _ _ => true
  | _ => false
theorem all_split {L : List Jvm.Cond} {P : Jvm.Cond → Bool} (h1 : L.all (fun c => isCode c || P c) = true) (h2 : ∀ c ∈ L.filter isCode, P c = true) : L.all P = true := by
  refine List.all_eq_true.mpr fun c hc => ?_
  have h := List.all_eq_true.mp h1 c hc
  rcases Bool.eq_false_or_eq_true (isCode c) with hi | hi
  · exact h2 c (List.mem_filter.mpr ⟨hc, hi⟩)
  · simpa [hi] using h
set_option maxRecDepth 65536 in
theorem w_c0 : (Jvm.Cond.code x code maxLocals ret).before args0 about1 = true := code_word (m := ⟨1, 1⟩) (meth := k1m1) (c := k1c1) (by decide +kernel) rfl rfl rfl (by decide +kernel)
set_option maxRecDepth 65536 in
theorem w_c1 : (Jvm.Cond.code ({ cls := "com/example/stubwright/stubwright/mapping/JavaTypes", name := "isChecked", desc := "(J)Z" } : Jvm.MethodName) prog_56_method_17_code (2 : Nat) (Option.some Jvm.ClassFile.FieldType.boolean)).before args0 about1 = true := code_word (m := ⟨2, 0⟩) (meth := k2m0) (c := k2c0) (by decide +kernel) rfl rfl rfl (by decide +kernel)
def codes1 : List Jvm.Cond := [Jvm.Cond.code x code maxLocals ret, Jvm.Cond.code ({ cls := "com/example/stubwright/stubwright/mapping/JavaTypes", name := "isChecked", desc := "(J)Z" } : Jvm.MethodName) prog_56_method_17_code (2 : Nat) (Option.some Jvm.ClassFile.FieldType.boolean)]
set_option maxRecDepth 65536 in
theorem codes_eq : words1.filter isCode = codes1 := rfl
theorem w_codes : ∀ c ∈ words1.filter isCode, c.before args0 about1 = true := by
  rw [codes_eq]
  intro c hc
  simp only [codes1, List.mem_cons, List.not_mem_nil, or_false] at hc
  rcases hc with rfl | rfl
  · exact w_c0
  · exact w_c1
set_option maxRecDepth 65536 in
theorem w_t1 : words1.all (fun c => isCode c || c.before args0 about1) = true := by decide +kernel
theorem w_tables : (allAtoms (Jvm.Cond.code x code maxLocals ret :: tables_1)).before args0 about1 = true := by
  rw [allAtoms_all]
  show words1.all (fun c => c.before args0 about1) = true
  refine all_split ?_ w_codes
  rw [w_t1]
set_option maxRecDepth 65536 in
theorem w_case : (Jvm.Cond.and given_1 narrow_1).before args0 about1 = true := by decide +kernel
theorem w_applies : (headSpec (Jvm.Cond.code x code maxLocals ret :: tables_1) room_1).applies x e0.platform about1 = true :=
  (Spec.applies_iff w_frames).mpr ⟨w_running, w_runnable, w_alone, w_named, w_hears, w_ripe, w_room, w_tables⟩
theorem atStart : AtStart classFile x code maxLocals ret World_1 tables_1 room_1 Calls_1 rest_1 Pre_1 launch0 p0 e0 about1 theMethod args0 below0 :=
  ⟨lists_1, trivial, launch0.admits_env _ _ _, launch0.least_env, fairChoices_fair.cas, fairChoices_fair.clock, w_frames, w_args, w_heap, w_applies, trivial, trivial, w_case⟩
end start1
theorem witness_1 : WitnessClaimed_1 := ⟨start1.p0, start1.e0, start1.about1, start1.theMethod, start1.args0, start1.below0, start1.atStart⟩
end Jvm.Pilot.@@N@@
