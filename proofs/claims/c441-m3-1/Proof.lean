import JvmDerived
import JvmDerived.Pilot.@@N@@Statement
import JvmDerived.Pilot.@@N@@Code
set_option linter.unusedVariables false
set_option linter.unusedSimpArgs false
namespace Jvm.RoadKit
open Sem ClassFile Op Lib Jvm.Stand Jvm.Free Jvm.LawKit
section New
variable {p : Program} {l : Launch} {e : Env} {R : Room} {s : State} {m : MethodId} {args : Array Value} {below : List Frame} {meth : Method} {c : Code} {T : State} {locs : List Loc} {cells slots : Nat}
theorem retI (X : Stand p l e R s m args below meth c T locs cells slots) (hx : p.tables.exec = Jvm.exec) {pc : Nat} {Ls : Array Slot} {z : Int32} {rest : List Value} (hret : meth.sig.returnType = some .int) (hd : decode c.code pc = .ok (.ireturn, 1)) {fs : List Frame}
    (hl : ∀ (f : JFrame) (acts : List Action), f.method = m → f.locked = none → f.entered = [] → (doReturn e (T.setTop f) acts (some (.int z))).1 = T.setFrames fs) : Steps p.tables e below (T.setTop (mkF m pc Ls (.int z :: rest))) (T.setFrames fs) := by
  have hm' : T.vm.method? m = some meth := X.method'
  have hn : narrow .int (.int z) = .int z := rfl
  show Steps p.tables e below (T.setTop { method := m, pc := pc, locals := Ls, stack := _ :: rest, locked := none }) _
  jvm_step X.here [X.here.top, hx, hd, hm', hret, hn]
  first | (intro acts; rw [hl _ acts rfl rfl rfl]) | rw [hl _ _ rfl rfl rfl]
  exact Steps.refl _
/-- the run goes on from here to an end of which P holds -/
def Go (tb : Tables) (e : Env) (below : List Frame) (T : State) (g : JFrame) (P : State → Prop) : Prop := ∃ U, Steps tb e below (T.setTop g) U ∧ P U
theorem go1 {tb : Tables} {T' : State} {g g' : JFrame} {P : State → Prop} (k : ∀ t, Steps tb e below (T'.setTop g') t → Steps tb e below (T.setTop g) t) (h : Go tb e below T' g' P) : Go tb e below T g P := by
  obtain ⟨U, h1, h2⟩ := h; exact ⟨U, k U h1, h2⟩
theorem goT {tb : Tables} {T' : State} {g g' : JFrame} {P : State → Prop} (k : Steps tb e below (T.setTop g) (T'.setTop g')) (h : Go tb e below T' g' P) : Go tb e below T g P := by
  obtain ⟨U, h1, h2⟩ := h; exact ⟨U, k.trans h1, h2⟩
theorem stp {tb : Tables} {T' t : State} {g g' : JFrame} (k : ∀ t, Steps tb e below (T'.setTop g') t → Steps tb e below (T.setTop g) t) (h : Steps tb e below (T'.setTop g') t) : Steps tb e below (T.setTop g) t := k t h
theorem goB {tb : Tables} {ml : Nat} {g : JFrame} {Qp : Outcome → State → Prop} (q : entryFrame m args ml = g) (h : Go tb e below T g (fun U => ∃ o, U.status = .running ∧ Ended U below o ∧ Qp o U)) :
    ∃ s₂ o, Steps tb e below (T.setTop (entryFrame m args ml)) s₂ ∧ s₂.status = .running ∧ Ended s₂ below o ∧ Qp o s₂ := by
  obtain ⟨U, h1, o, h2, h3, h4⟩ := h; exact ⟨U, o, q ▸ h1, h2, h3, h4⟩
theorem goR (X : Stand p l e R s m args below meth c T locs cells slots) (hlocks : meth.locks = false) {v : Option Value} (hv : meth.sig.returnType = none → v = none) {g : JFrame} {kc ks : Nat} (Q : Option Value → Heap → List Loc → Prop)
    (k : ∀ fs, (∀ (f : JFrame) (acts : List Action), f.method = m → f.locked = none → f.entered = [] → (doReturn e (T.setTop f) acts v).1 = T.setFrames fs) → Steps p.tables e below (T.setTop g) (T.setFrames fs)) (hc : cells ≤ kc) (hs : slots ≤ ks) (hq : Q v T.heap locs) :
    Go p.tables e below T g (fun U => ∃ o, U.status = .running ∧ Ended U below o ∧ ∃ v L, o = .returned v ∧ Q v U.heap L ∧ FrameEnd s o U L kc ks) := by
  obtain ⟨fs, hr, hrun, hended, hW, hsame⟩ := X.leave hv hlocks
  exact ⟨_, k fs hr, _, hrun, hended, _, _, rfl, hq, ⟨_, rfl⟩, hW, hsame.mono hc hs⟩
theorem fitsG {C : String} {u : Value} (h : u.isRef = true) : fits (.object C) u = true := by rcases ref_cases h with rfl | ⟨a, rfl⟩ <;> rfl
theorem selPriv {Z : State} {a0 : Array Value} {y : MethodName} {n : Nat} (hZ : Z.Warmed39 s.vm) (wi : (Cond.instantiable y.cls n).before a0 Z = true) (wp : (Cond.privateMethod y).before a0 Z = true) (wm : (Cond.instanceMethod y).before a0 Z = true) (hy : y.cls ≠ "java/lang/invoke/MethodHandle" ∧ y.cls ≠ "java/lang/invoke/VarHandle") : (Cond.selects y.cls y y).before args s = true := by
  obtain ⟨c, k, h1, h2, -, h4, -⟩ := Cond.instantiable_spec (show (Cond.instantiable y.cls n).before args s = true from mv hZ wi)
  have h5 : k.isInterface = false := by
    cases hq : k.isInterface
    · rfl
    · rw [hq] at h4; simp at h4
  exact selects_self_of_private h1 h2 h5 (Cond.privateMethod_at (mvP hZ wp (args := #[]))) (mv hZ wm) hy
theorem nsRoot {Z : State} {a0 : Array Value} {O K : String} {n : Nat} (w : (Cond.noSuperclass O).before a0 Z = true) (wk : (Cond.instantiable K n).before a0 Z = true) (hn : O ≠ K) : NS Z O K := by
  obtain ⟨c, k, h1, h2, h3, -⟩ := Cond.noSuperclass_spec w
  obtain ⟨t, kt, g1, -⟩ := Cond.instantiable_spec wk
  have ne := ids_ne h1 g1 hn
  exact ⟨c, t, h1, g1, fun fuel => by cases fuel <;> simp [Vm.isSubclassAux, ne, h2, h3]⟩
theorem nsNo {Z : State} {a0 : Array Value} {C S K : String} {n : Nat} (w : (Cond.superclass C S).before a0 Z = true) (wk : (Cond.instantiable K n).before a0 Z = true) (N : NS Z C K) (hn : C ≠ K) : ∃ c t, Z.vm.findClass C = some c ∧ Z.vm.findClass K = some t ∧ Z.vm.assignable c t = false := by
  obtain ⟨c, t, h0, g0, n3⟩ := N
  obtain ⟨pp, k, kp, -, h2, -, -, h5, -, -⟩ := Cond.superclass_spec h0 w
  obtain ⟨t', kt, g1, g2, g3, g4, -⟩ := Cond.instantiable_spec wk
  cases g0.symm.trans g1
  have ne := ids_ne h0 g0 hn
  have g5 : kt.isInterface = false := by
    cases hq : kt.isInterface
    · rfl
    · rw [hq] at g4; simp at g4
  refine ⟨c, t, h0, g0, ?_⟩
  show Z.vm.assignableAux (255 + 1) c t = false
  simp [Vm.assignableAux, ne, h2, g2, h5, g3, g5, Vm.isSubclass, n3]
theorem goRW {vm₁ : Vm} {n : Nat} (X : Stand p l e R (s.setVm vm₁) m args below meth c T locs cells slots) (hS : s.Since vm₁ n) (hn : n ≤ T.heap.size) (hlocks : meth.locks = false) {v : Option Value} (hv : meth.sig.returnType = none → v = none) {g : JFrame} {kc ks : Nat} (Q : Option Value → Heap → List Loc → Prop)
    (k : ∀ fs, (∀ (f : JFrame) (acts : List Action), f.method = m → f.locked = none → f.entered = [] → (doReturn e (T.setTop f) acts v).1 = T.setFrames fs) → Steps p.tables e below (T.setTop g) (T.setFrames fs)) (hc : cells ≤ kc) (hs : slots ≤ ks) (hq : Q v T.heap locs) :
    Go p.tables e below T g (fun U => ∃ o, U.status = .running ∧ Ended U below o ∧ ∃ v L, o = .returned v ∧ Q v U.heap L ∧ ReturnedEndW s o U L kc ks) := by
  obtain ⟨fs, hr, hrun, hended, hE⟩ := X.leaveW hS hn hv hlocks
  exact ⟨_, k fs hr, _, hrun, hended, _, _, rfl, hq, hE.1, hE.2.1, hE.2.2.1, hE.2.2.2.mono hc hs⟩
theorem backOfSC {Z : State} {a0 : Array Value} {h : Heap} {EL : List (String × Nat)} {vm0 : Vm} {y : MethodName} {bytes : ByteArray} {maxL : Nat} {ret : Option FieldType} {rm : Room} {len W : Nat} {as' : Array Value} {Q : Option Value → Heap → List Loc → Prop}
    (hM : MetFree l y (head1 [Cond.code y bytes maxL ret] rm) (fun a U => a = as' ∧ Z.Warmed39 U.vm ∧ U.heap = h ∧ CHv Z EL U.vm h) (fun _ _ _ _ _ => True) (fun _ U o U' => ∃ v L, o = .returned v ∧ Q v U'.heap L ∧ ReturnedEndW U o U' L rm.cells rm.slots))
    (hZ : Z.Warmed39 vm0) (wc : (Cond.code y bytes maxL ret).before a0 Z = true) (wz : (Cond.initialized y.cls).before a0 Z = true) (hf : rm.frames + 1 ≤ R.frames) (hl : W + (maxL + 11) + rm.locals ≤ R.locals) (hEL : EW Z a0 EL) (H : CHv Z EL vm0 h) :
    BackS l R p e below (s.setVm vm0) args y len W (fun A a => a = as' ∧ A.U.heap = h ∧ A.cells + rm.cells ≤ R.cells ∧ A.slots + rm.slots ≤ R.slots)
      (fun A _ v B => ∃ L, Q v B.U.heap L ∧ B.locs = A.locs ++ L ∧ B.cells = A.cells + rm.cells ∧ B.slots = A.slots + rm.slots) :=
  BackS.of_freeW (bytes := bytes) (maxL := maxL) (ret := ret) (E := fun _ _ o t L k n => k = rm.cells ∧ n = rm.slots ∧ ∃ v, o = .returned v ∧ Q v t.heap L) hM hf hl
    (fun m meth c A a Y hp => have hU : Z.Warmed39 A.U.vm := wtrans (s := s.setVm vm0) hZ Y.warmed
      ⟨by show (Cond.and _ .tt).before a A.U = true; rw [Cond.before_and, mv hU wc]; rfl, mv hU wc, mv hU wz, hp.2.2.1, hp.2.2.2⟩)
    (fun m meth c A a g mk Y hp => ⟨hp.1, wtrans (s := s.setVm vm0) hZ Y.warmed, hp.2.1, (CHv.at Y hZ hEL H).1⟩) (fun _ _ _ _ _ _ _ _ _ => trivial)
    (fun _ _ _ _ ⟨v, L, h1, h2, h3⟩ => ⟨L, _, _, h3, rfl, rfl, v, h1, h2⟩)
    (fun m meth c A a g mk v t L k n Y hp _ _ ⟨e1, e2, v', e3, e4⟩ => by cases e3; subst e1 e2; exact ⟨L, e4, rfl, rfl, rfl⟩)
theorem lenS {Z : State} {t : Term} {a : Addr} {cl : Cell} {n : Int32} {ty : FieldType} (ev : t.eval args Z none [] Z = some (.ref a)) (A : Arr Z Z.heap a cl ty) (h : (Term.length t).eval args Z none [] Z = some (.int n)) :
    cl.slots.size < 2 ^ 31 ∧ cl.slots.size.toInt32 = n ∧ cl.slots.size = n.toNatClampNeg ∧ ¬ n < 0 := by
  have ha := A.fin (Vm.Alike.refl _)
  by_cases q : cl.slots.size < 2 ^ 31
  · have e := len_f ev ha q
    rw [h] at e
    have e2 : n = cl.slots.size.toInt32 := by injection e with e; injection e
    have e3 := len_toInt q
    refine ⟨q, e2.symm, ?_, ?_⟩
    · rw [e2]; simp only [Int32.toNatClampNeg, e3]; rfl
    · rw [e2, Int32.lt_iff_toInt_lt, e3]; show ¬ (cl.slots.size : Int) < 0; omega
  · exfalso
    have q' : ¬ cl.slots.size < 2147483648 := q
    simp [Term.eval, ev, ha, q'] at h
end New
end Jvm.RoadKit
namespace Jvm.Pilot.@@N@@
open Jvm Jvm.ClassFile Sem Op Lib Jvm.Free Jvm.Stand Jvm.LawKit Jvm.RoadKit Bundle Jvm.Pilot.@@N@@.Jvm.D
def LatL (vs : List Value) : Prop := ∀ i : Nat, ∃ v : Int32, vs.getD i (.int 0) = .int v ∧ ¬ ((255 : Int32) < v)
theorem LatL.set {vs : List Value} (H : LatL vs) (i : Nat) (v : Int32) (hv : ¬ ((255 : Int32) < v)) : LatL (vs.set i (.int v)) := fun j => by
  by_cases q : i = j
  · subst q
    by_cases r : i < vs.length
    · exact ⟨v, by simp [List.getD_eq_getElem?_getD, r], hv⟩
    · obtain ⟨w, h1, h2⟩ := H i
      exact ⟨w, by rw [List.set_eq_of_length_le (Nat.le_of_not_lt r)]; exact h1, h2⟩
  · obtain ⟨w, h1, h2⟩ := H j
    exact ⟨w, by simp only [List.getD_eq_getElem?_getD] at h1 ⊢; rw [List.getElem?_set_ne q]; exact h1, h2⟩
theorem own_arr {Z : State} {h : Heap} {a : Addr} {k : ClassId} {ty : FieldType} {z : Int32} (F : Arv Z h a k ty z [] (.int 0)) : ∃ vs : List Value, Arv Z h a k ty z vs (.int 0) ∧ vs.length = z.toNatClampNeg ∧ LatL vs :=
  ⟨[] ++ List.replicate z.toNatClampNeg (.int 0), F.pad (pad_rep [] (.int 0) _), by simp, fun i => ⟨0, pad_rep [] (.int 0) _ i, by decide⟩⟩
theorem own_clamp {z : Int32} (h : ¬ z < 0) : ((z.toNatClampNeg : Nat) : Int) = z.toInt := by
  have k := mt Int32.lt_iff_toInt_lt.mpr h
  have l : (0 : Int32).toInt = 0 := by decide
  simp only [Int32.toNatClampNeg]; omega
theorem own_next {j z : Int32} {k : Nat} (h0 : 0 ≤ j.toInt) (h1 : j.toInt + ((k + 1 : Nat) : Int) = z.toInt) : 0 ≤ (j + (1 : Int32)).toInt ∧ (j + (1 : Int32)).toInt + (k : Int) = z.toInt ∧ ¬ j < 0 ∧ j < z := by
  have c := c_iadd j (1 : Int32)
  have r := rng32 (j + (1 : Int32))
  have rz := rng32 z
  have l1 : (1 : Int32).toInt = 1 := by decide
  have l0 : (0 : Int32).toInt = 0 := by decide
  refine ⟨by omega, by omega, ?_, ?_⟩
  · rw [Int32.lt_iff_toInt_lt]; omega
  · rw [Int32.lt_iff_toInt_lt]; omega
theorem own_last {j z : Int32} (h1 : j.toInt + ((0 : Nat) : Int) = z.toInt) : ¬ j < z := by
  rw [Int32.lt_iff_toInt_lt]; omega
theorem own_coder (z : Int32) : nar .byte ((((z - z).toUInt32 >>> ((31 : Int32) &&& 31).toUInt32).toInt32).toInt8.toInt32) = 0 := by
  have e : z - z = 0 := by
    apply Int32.toInt_inj.mp
    have c := c_isub z z
    have r := rng32 (z - z)
    have l0 : (0 : Int32).toInt = 0 := by decide
    omega
  rw [e]; decide
theorem own_shr0 (z : Int32) : (z >>> ((nar .byte (0 : Int32)) &&& 31)) = z := by
  apply Int32.toInt_inj.mp
  have h := c_ishr z (nar .byte (0 : Int32)) 0 (by decide)
  simpa using h
theorem own_ch (x : Int32) : ¬ ((255 : Int32) < (nar .char ((x &&& (255 : Int32)).toUInt32.toUInt16.toUInt32.toInt32))) := by
  have h := c_mask x (255 : Int32) 8 (by decide) (by decide)
  have c := c_i2c (x &&& (255 : Int32))
  have d := c_i2c ((x &&& (255 : Int32)).toUInt32.toUInt16.toUInt32.toInt32)
  have l : (255 : Int32).toInt = 255 := by decide
  show ¬ ((255 : Int32) < (((x &&& (255 : Int32)).toUInt32.toUInt16.toUInt32.toInt32)).toUInt32.toUInt16.toUInt32.toInt32)
  rw [Int32.lt_iff_toInt_lt]; omega
theorem d8_3 : decode jdk_52_method_21_code 3 = .ok (.iload 5, 2) := by decide +kernel
theorem d8_5 : decode jdk_52_method_21_code 5 = .ok (.iload 4, 2) := by decide +kernel
theorem d8_7 : decode jdk_52_method_21_code 7 = .ok (.if_icmp .ge 37, 3) := by decide +kernel
theorem d8_10 : decode jdk_52_method_21_code 10 = .ok (.aload_n 0, 1) := by decide +kernel
theorem d8_11 : decode jdk_52_method_21_code 11 = .ok (.iload_n 1, 1) := by decide +kernel
theorem d8_12 : decode jdk_52_method_21_code 12 = .ok (.caload, 1) := by decide +kernel
theorem d8_13 : decode jdk_52_method_21_code 13 = .ok (.istore 6, 2) := by decide +kernel
theorem d8_15 : decode jdk_52_method_21_code 15 = .ok (.iload 6, 2) := by decide +kernel
theorem d8_17 : decode jdk_52_method_21_code 17 = .ok (.sipush 255, 3) := by decide +kernel
theorem d8_20 : decode jdk_52_method_21_code 20 = .ok (.if_icmp .le 6, 3) := by decide +kernel
theorem d8_26 : decode jdk_52_method_21_code 26 = .ok (.aload_n 2, 1) := by decide +kernel
theorem d8_27 : decode jdk_52_method_21_code 27 = .ok (.iload_n 3, 1) := by decide +kernel
theorem d8_28 : decode jdk_52_method_21_code 28 = .ok (.iload 6, 2) := by decide +kernel
theorem d8_30 : decode jdk_52_method_21_code 30 = .ok (.i2b, 1) := by decide +kernel
theorem d8_31 : decode jdk_52_method_21_code 31 = .ok (.bastore, 1) := by decide +kernel
theorem d8_32 : decode jdk_52_method_21_code 32 = .ok (.iinc 1 1, 3) := by decide +kernel
theorem d8_35 : decode jdk_52_method_21_code 35 = .ok (.iinc 3 1, 3) := by decide +kernel
theorem d8_38 : decode jdk_52_method_21_code 38 = .ok (.iinc 5 1, 3) := by decide +kernel
theorem d8_41 : decode jdk_52_method_21_code 41 = .ok (.goto (-38), 3) := by decide +kernel
set_option maxRecDepth 65536 in
set_option maxHeartbeats 40000000 in
theorem own_loop {p : Program} {l : Launch} {e : Env} {R : Room} {s : State} {m : MethodId} {args : Array Value} {below : List Frame} {meth : Method} {c : Code} {Z : State} {P : State → Prop} {h0 : Heap} {n0 : Nat} {a1 b1 : Addr} {ka kb : ClassId} {z : Int32} {va : List Value}
    (hx : p.tables.exec = Jvm.exec) (hZ : Z.Warmed39 s.vm) (hby : c.code = jdk_52_method_21_code) (hp : LatL va) (hne : a1 ≠ b1) (g_b1 : n0 ≤ b1)
    (hEnd : ∀ (T : State) (locs : List Loc) (h : Heap) (vs : List Value) (j : Int32) (o6 : Slot), Stand p l e R s m args below meth c T locs 0 0 → T.heap = h → Fr n0 locs → Keep h0 h [b1] → Arv Z h b1 kb .byte z vs (.int 0) → Go p.tables e below T (mkF m 44 #[.val (.ref a1), .val (.int j), .val (.ref b1), .val (.int j), .val (.int z), .val (.int j), o6] []) P) :
    ∀ (k : Nat) (T : State) (locs : List Loc) (h : Heap) (vs : List Value) (j : Int32) (o6 : Slot), Stand p l e R s m args below meth c T locs 0 0 → T.heap = h → Fr n0 locs → Keep h0 h [b1] → Arv Z h a1 ka .char z va (.int 0) → Arv Z h b1 kb .byte z vs (.int 0) → vs.length = z.toNatClampNeg → 0 ≤ j.toInt → j.toInt + (k : Int) = z.toInt → (o6 = .unset ∨ ∃ w, o6 = .val (.int w)) → Go p.tables e below T (mkF m 3 #[.val (.ref a1), .val (.int j), .val (.ref b1), .val (.int j), .val (.int z), .val (.int j), o6] []) P := by
  intro k
  induction k with
  | zero =>
    intro T locs h vs j o6 X e1 N K1 Va Vb hlen hj hk ho6
    have hjz := own_last hk
    show Go p.tables e below T (mkF m 3 #[.val (.ref a1), .val (.int j), .val (.ref b1), .val (.int j), .val (.int z), .val (.int j), o6] []) _
    refine go1 (fun _ => XS.iload X.here hx rfl (hb hby d8_3) rfl) ?_
    show Go p.tables e below T (mkF m 5 #[.val (.ref a1), .val (.int j), .val (.ref b1), .val (.int j), .val (.int z), .val (.int j), o6] [(.int j)]) _
    refine go1 (fun _ => XS.iload X.here hx rfl (hb hby d8_5) rfl) ?_
    show Go p.tables e below T (mkF m 7 #[.val (.ref a1), .val (.int j), .val (.ref b1), .val (.int j), .val (.int z), .val (.int j), o6] [(.int z), (.int j)]) _
    refine go1 (fun _ => XS.icmpYes X.here hx rfl (pc0 := 7) (pc' := 44) rfl (hb hby d8_7) rfl (flt hjz).2.1 (by decide) (by decide)) ?_
    show Go p.tables e below T (mkF m 44 #[.val (.ref a1), .val (.int j), .val (.ref b1), .val (.int j), .val (.int z), .val (.int j), o6] []) _
    exact hEnd _ _ _ _ _ _ X e1 N K1 Vb
  | succ k ih =>
    intro T locs h vs j o6 X e1 N K1 Va Vb hlen hj hk ho6
    obtain ⟨hj1, hj2, hj0, hjz⟩ := own_next hj hk
    obtain ⟨v, hv1, hv2⟩ := hp j.toNatClampNeg
    show Go p.tables e below T (mkF m 3 #[.val (.ref a1), .val (.int j), .val (.ref b1), .val (.int j), .val (.int z), .val (.int j), o6] []) _
    refine go1 (fun _ => XS.iload X.here hx rfl (hb hby d8_3) rfl) ?_
    show Go p.tables e below T (mkF m 5 #[.val (.ref a1), .val (.int j), .val (.ref b1), .val (.int j), .val (.int z), .val (.int j), o6] [(.int j)]) _
    refine go1 (fun _ => XS.iload X.here hx rfl (hb hby d8_5) rfl) ?_
    show Go p.tables e below T (mkF m 7 #[.val (.ref a1), .val (.int j), .val (.ref b1), .val (.int j), .val (.int z), .val (.int j), o6] [(.int z), (.int j)]) _
    refine go1 (fun _ => XS.icmpNo X.here hx rfl (hb hby d8_7) rfl (tlt hjz).2.1) ?_
    show Go p.tables e below T (mkF m 10 #[.val (.ref a1), .val (.int j), .val (.ref b1), .val (.int j), .val (.int z), .val (.int j), o6] []) _
    refine go1 (fun _ => XS.aloadN X.here hx rfl (hb hby d8_10) rfl rfl) ?_
    show Go p.tables e below T (mkF m 11 #[.val (.ref a1), .val (.int j), .val (.ref b1), .val (.int j), .val (.int z), .val (.int j), o6] [(.ref a1)]) _
    refine go1 (fun _ => XS.iloadN X.here hx rfl (hb hby d8_11) rfl) ?_
    show Go p.tables e below T (mkF m 12 #[.val (.ref a1), .val (.int j), .val (.ref b1), .val (.int j), .val (.int z), .val (.int j), o6] [(.int j), (.ref a1)]) _
    have vo1 := Va
    obtain ⟨cl1, Ar1, -, S1, M1, H1, -⟩ := vo1
    have hin1 := inb_of (j := j) S1 ⟨hj0, hjz⟩
    have hat1 := H1.at hin1 hv1
    refine go1 (X.caload hx (j := j) (v := (.int v)) (by rw [e1]; exact Ar1.1) (State.isArrayOf_alike hZ.alike Ar1.2.1) Ar1.2.2 hin1 hat1 (g := (mkF m 12 #[.val (.ref a1), .val (.int j), .val (.ref b1), .val (.int j), .val (.int z), .val (.int j), o6] [(.int j), (.ref a1)])) rfl rfl (hb hby d8_12)) ?_
    show Go p.tables e below T (mkF m 13 #[.val (.ref a1), .val (.int j), .val (.ref b1), .val (.int j), .val (.int z), .val (.int j), o6] [(.int v)]) _
    refine go1 (fun _ => XS.istore X.here hx rfl (hb hby d8_13) rfl (l' := #[.val (.ref a1), .val (.int j), .val (.ref b1), .val (.int j), .val (.int z), .val (.int j), .val (.int v)]) (by rcases ho6 with rfl | ⟨_, rfl⟩ <;> rfl)) ?_
    show Go p.tables e below T (mkF m 15 #[.val (.ref a1), .val (.int j), .val (.ref b1), .val (.int j), .val (.int z), .val (.int j), .val (.int v)] []) _
    refine go1 (fun _ => XS.iload X.here hx rfl (hb hby d8_15) rfl) ?_
    show Go p.tables e below T (mkF m 17 #[.val (.ref a1), .val (.int j), .val (.ref b1), .val (.int j), .val (.int z), .val (.int j), .val (.int v)] [(.int v)]) _
    refine go1 (fun _ => XS.sipush X.here hx rfl (hb hby d8_17)) ?_
    show Go p.tables e below T (mkF m 20 #[.val (.ref a1), .val (.int j), .val (.ref b1), .val (.int j), .val (.int z), .val (.int j), .val (.int v)] [(.int (255 : Int32)), (.int v)]) _
    refine go1 (fun _ => XS.icmpYes X.here hx rfl (pc0 := 20) (pc' := 26) rfl (hb hby d8_20) rfl (flt hv2).2.2.2 (by decide) (by decide)) ?_
    show Go p.tables e below T (mkF m 26 #[.val (.ref a1), .val (.int j), .val (.ref b1), .val (.int j), .val (.int z), .val (.int j), .val (.int v)] []) _
    refine go1 (fun _ => XS.aloadN X.here hx rfl (hb hby d8_26) rfl rfl) ?_
    show Go p.tables e below T (mkF m 27 #[.val (.ref a1), .val (.int j), .val (.ref b1), .val (.int j), .val (.int z), .val (.int j), .val (.int v)] [(.ref b1)]) _
    refine go1 (fun _ => XS.iloadN X.here hx rfl (hb hby d8_27) rfl) ?_
    show Go p.tables e below T (mkF m 28 #[.val (.ref a1), .val (.int j), .val (.ref b1), .val (.int j), .val (.int z), .val (.int j), .val (.int v)] [(.int j), (.ref b1)]) _
    refine go1 (fun _ => XS.iload X.here hx rfl (hb hby d8_28) rfl) ?_
    show Go p.tables e below T (mkF m 30 #[.val (.ref a1), .val (.int j), .val (.ref b1), .val (.int j), .val (.int z), .val (.int j), .val (.int v)] [(.int v), (.int j), (.ref b1)]) _
    refine go1 (fun _ => XS.i2b X.here hx rfl (hb hby d8_30) rfl) ?_
    show Go p.tables e below T (mkF m 31 #[.val (.ref a1), .val (.int j), .val (.ref b1), .val (.int j), .val (.int z), .val (.int j), .val (.int v)] [(.int (v.toInt8.toInt32)), (.int j), (.ref b1)]) _
    have vo2 := Vb
    obtain ⟨cl2, Ar2, q2, S2, M2, H2, G2⟩ := vo2
    have hin2 := inb_of (j := j) S2 ⟨hj0, hjz⟩
    obtain ⟨T2, h2, X2, e2, W2, st2⟩ := stB X hx hZ e1 Ar2 (j := j) hin2 (g := (mkF m 31 #[.val (.ref a1), .val (.int j), .val (.ref b1), .val (.int j), .val (.int z), .val (.int j), .val (.int v)] [(.int (v.toInt8.toInt32)), (.int j), (.ref b1)])) rfl rfl (hb hby d8_31)
    refine go1 st2 ?_
    have N2 := Fr.snoc X2 N g_b1
    have V2 : Arv Z h2 b1 kb .byte z (vs.set j.toNatClampNeg (.int (nar .byte (v.toInt8.toInt32)))) (.int 0) := Arv.set Ar2 q2 S2 M2 H2 G2 (fits_nar_byte _) W2 j.toNatClampNeg rfl (by rw [hlen, ← S2]; exact Nat.lt_of_not_le fun q => hin2 (Or.inr q))
    show Go p.tables e below T2 (mkF m 32 #[.val (.ref a1), .val (.int j), .val (.ref b1), .val (.int j), .val (.int z), .val (.int j), .val (.int v)] []) _
    refine go1 (fun _ => XS.iinc X2.here hx rfl (hb hby d8_32) rfl (l' := #[.val (.ref a1), .val (.int (j + (1 : Int32))), .val (.ref b1), .val (.int j), .val (.int z), .val (.int j), .val (.int v)]) rfl) ?_
    show Go p.tables e below T2 (mkF m 35 #[.val (.ref a1), .val (.int (j + (1 : Int32))), .val (.ref b1), .val (.int j), .val (.int z), .val (.int j), .val (.int v)] []) _
    refine go1 (fun _ => XS.iinc X2.here hx rfl (hb hby d8_35) rfl (l' := #[.val (.ref a1), .val (.int (j + (1 : Int32))), .val (.ref b1), .val (.int (j + (1 : Int32))), .val (.int z), .val (.int j), .val (.int v)]) rfl) ?_
    show Go p.tables e below T2 (mkF m 38 #[.val (.ref a1), .val (.int (j + (1 : Int32))), .val (.ref b1), .val (.int (j + (1 : Int32))), .val (.int z), .val (.int j), .val (.int v)] []) _
    refine go1 (fun _ => XS.iinc X2.here hx rfl (hb hby d8_38) rfl (l' := #[.val (.ref a1), .val (.int (j + (1 : Int32))), .val (.ref b1), .val (.int (j + (1 : Int32))), .val (.int z), .val (.int (j + (1 : Int32))), .val (.int v)]) rfl) ?_
    show Go p.tables e below T2 (mkF m 41 #[.val (.ref a1), .val (.int (j + (1 : Int32))), .val (.ref b1), .val (.int (j + (1 : Int32))), .val (.int z), .val (.int (j + (1 : Int32))), .val (.int v)] []) _
    refine go1 (fun _ => XS.goto X2.here hx rfl (pc0 := 41) (pc' := 3) rfl (hb hby d8_41) (by decide) (by decide)) ?_
    show Go p.tables e below T2 (mkF m 3 #[.val (.ref a1), .val (.int (j + (1 : Int32))), .val (.ref b1), .val (.int (j + (1 : Int32))), .val (.int z), .val (.int (j + (1 : Int32))), .val (.int v)] []) _
    exact ih _ _ _ _ (j + (1 : Int32)) (.val (.int v)) X2 e2 N2 (K1.wr W2 (Or.inl (List.mem_of_getElem? (i := 0) rfl))) (Va.other W2 hne) V2 (by rw [List.length_set]; exact hlen) hj1 hj2 (Or.inr ⟨v, rfl⟩)
theorem d8_0 : decode jdk_52_method_21_code 0 = .ok (.iconst 0, 1) := by decide +kernel
theorem d8_1 : decode jdk_52_method_21_code 1 = .ok (.istore 5, 2) := by decide +kernel
theorem d8_44 : decode jdk_52_method_21_code 44 = .ok (.iload 4, 2) := by decide +kernel
theorem d8_46 : decode jdk_52_method_21_code 46 = .ok (.ireturn, 1) := by decide +kernel
theorem pn_8 : plainName "java/lang/StringUTF16" = true := by first | (simp [plainName, overriddenIn]; done) | decide +kernel
theorem ef_8 (m : MethodId) (a1 : Addr) (b1 : Addr) (z : Int32) : entryFrame m #[(.ref a1), (.int (0 : Int32)), (.ref b1), (.int (0 : Int32)), (.int z)] 7 = mkF m 0 #[.val (.ref a1), .val (.int (0 : Int32)), .val (.ref b1), .val (.int (0 : Int32)), .val (.int z), .unset, .unset] [] := by first | (simp [entryFrame, mkF, argsToLocals, Value.category]; done) | rfl
def Q8 (Z : State) (a1 : Addr) (b1 : Addr) (ka : ClassId) (kb : ClassId) (z : Int32) (va : List Value) (vb : List Value) (h0 : Heap) (n0 : Nat) (v : Option Value) (h : Heap) (L : List Loc) : Prop := ∃ (vs : List Value), v = some (.int z) ∧ Fr n0 L ∧ Keep h0 h [b1] ∧ Arv Z h b1 kb .byte z vs (.int 0)
set_option maxRecDepth 65536 in
set_option maxHeartbeats 40000000 in
theorem rm8 (l : Launch) (Z : State) (a0 : Array Value) (hw : ∀ d ∈ tables_1, d.before a0 Z = true) (ws : List Jvm.Cond) (a1 : Addr) (b1 : Addr) (ka : ClassId) (kb : ClassId) (z : Int32) (va : List Value) (vb : List Value) (h0 : Heap) (n0 : Nat) (Z0 : n0 ≤ h0.size) (V_a1 : Arv Z h0 a1 ka .char z va (.int 0)) (V_b1 : Arv Z h0 b1 kb .byte z vb (.int 0)) (g_b1 : n0 ≤ b1) (hne : a1 ≠ b1) (hp : LatL va) (hlen : vb.length = z.toNatClampNeg) (hneg : ¬ (z < (0 : Int32))) :
    MetFree l (⟨"java/lang/StringUTF16", "compress", "([CI[BII)I"⟩ : MethodName) (head1 (Jvm.Cond.code (⟨"java/lang/StringUTF16", "compress", "([CI[BII)I"⟩ : MethodName) jdk_52_method_21_code 7 (some .int) :: ws) ({ frames := 0, cells := 0, slots := 0, locals := 0 } : Room)) (fun a U => a = #[(.ref a1), (.int (0 : Int32)), (.ref b1), (.int (0 : Int32)), (.int z)] ∧ Z.Warmed39 U.vm ∧ U.heap = h0) (fun _ _ _ _ _ => True) (fun _ U o U' => ∃ v L, o = .returned v ∧ Q8 Z a1 b1 ka kb z va vb h0 n0 v U'.heap L ∧ FrameEnd U o U' L ({ frames := 0, cells := 0, slots := 0, locals := 0 } : Room).cells ({ frames := 0, cells := 0, slots := 0, locals := 0 } : Room).slots) := by
  refine MetFree.of_bodySF (plainFor_of_name pn_8) hisR ?_
  intro p e s m args below meth c s₁ Bd hml0 hP hK
  obtain ⟨rfl, hZ, hh⟩ := hP
  have hx := Bd.exec
  have hby := Bd.bytes
  have hml : c.maxLocals = 7 := hml0
  have hown : s.vm.findClass "java/lang/StringUTF16" = some m.cls := findClass_of_methodNamed Bd.named
  have hnm := (name_of_methodNamed Bd.named Bd.method).1
  have X0 : Stand p l e ({ frames := 0, cells := 0, slots := 0, locals := 0 } : Room) s m #[(.ref a1), (.int (0 : Int32)), (.ref b1), (.int (0 : Int32)), (.int z)] below meth c s₁ [] 0 0 := Stand.of_body Bd
  have e0 : s₁.heap = h0 := by rw [← hh, Bd.state]; rfl
  have N0 := Fr.nil n0
  refine goB (ef_8 m a1 b1 z) ?_
  show Go p.tables e below s₁ (mkF m 0 #[.val (.ref a1), .val (.int (0 : Int32)), .val (.ref b1), .val (.int (0 : Int32)), .val (.int z), .unset, .unset] []) _
  refine go1 (fun _ => XS.iconst X0.here hx rfl (hb hby d8_0)) ?_
  show Go p.tables e below s₁ (mkF m 1 #[.val (.ref a1), .val (.int (0 : Int32)), .val (.ref b1), .val (.int (0 : Int32)), .val (.int z), .unset, .unset] [(.int (0 : Int32))]) _
  refine go1 (fun _ => XS.istore X0.here hx rfl (hb hby d8_1) rfl (l' := #[.val (.ref a1), .val (.int (0 : Int32)), .val (.ref b1), .val (.int (0 : Int32)), .val (.int z), .val (.int (0 : Int32)), .unset]) rfl) ?_
  show Go p.tables e below s₁ (mkF m 3 #[.val (.ref a1), .val (.int (0 : Int32)), .val (.ref b1), .val (.int (0 : Int32)), .val (.int z), .val (.int (0 : Int32)), .unset] []) _
  refine own_loop (P := _) hx hZ hby hp hne g_b1 (fun T locs h vs j o6 X e1 N K1 Vb => ?_) z.toNatClampNeg s₁ [] h0 vb (0 : Int32) .unset X0 e0 N0 (Keep.refl h0 [b1]) V_a1 V_b1 hlen (by decide) (by rw [own_clamp hneg]; show (0 : Int32).toInt + z.toInt = z.toInt; rw [show (0 : Int32).toInt = 0 from by decide]; omega) (Or.inl rfl)
  show Go p.tables e below T (mkF m 44 #[.val (.ref a1), .val (.int j), .val (.ref b1), .val (.int j), .val (.int z), .val (.int j), o6] []) _
  refine go1 (fun _ => XS.iload X.here hx rfl (hb hby d8_44) rfl) ?_
  show Go p.tables e below T (mkF m 46 #[.val (.ref a1), .val (.int j), .val (.ref b1), .val (.int j), .val (.int z), .val (.int j), o6] [(.int z)]) _
  refine goR X (BodyLoose.notSynchronized Bd) (v := (some (.int z))) (fun h => by rw [Bd.returns] at h; cases h) (Q8 Z a1 b1 ka kb z va vb h0 n0) (fun fs hr => retI X hx Bd.returns (hb hby d8_46) hr) (by decide) (by decide) ?_
  show Q8 Z a1 b1 ka kb z va vb h0 n0 _ T.heap _
  rw [e1]
  exact ⟨vs, rfl, N, K1, Vb⟩
theorem d7_0 : decode jdk_52_method_16_code 0 = .ok (.iload_n 2, 1) := by decide +kernel
theorem d7_1 : decode jdk_52_method_16_code 1 = .ok (.newarray .byte, 2) := by decide +kernel
theorem d7_3 : decode jdk_52_method_16_code 3 = .ok (.astore_n 3, 1) := by decide +kernel
theorem d7_4 : decode jdk_52_method_16_code 4 = .ok (.aload_n 0, 1) := by decide +kernel
theorem d7_5 : decode jdk_52_method_16_code 5 = .ok (.iload_n 1, 1) := by decide +kernel
theorem d7_6 : decode jdk_52_method_16_code 6 = .ok (.aload_n 3, 1) := by decide +kernel
theorem d7_7 : decode jdk_52_method_16_code 7 = .ok (.iconst 0, 1) := by decide +kernel
theorem d7_8 : decode jdk_52_method_16_code 8 = .ok (.iload_n 2, 1) := by decide +kernel
theorem d7_9 : decode jdk_52_method_16_code 9 = .ok (.invokestatic 115, 3) := by decide +kernel
theorem d7_12 : decode jdk_52_method_16_code 12 = .ok (.istore 4, 2) := by decide +kernel
theorem d7_14 : decode jdk_52_method_16_code 14 = .ok (.iload 4, 2) := by decide +kernel
theorem d7_16 : decode jdk_52_method_16_code 16 = .ok (.iload_n 2, 1) := by decide +kernel
theorem d7_17 : decode jdk_52_method_16_code 17 = .ok (.if_icmp .eq 40, 3) := by decide +kernel
theorem d7_57 : decode jdk_52_method_16_code 57 = .ok (.aload_n 3, 1) := by decide +kernel
theorem d7_58 : decode jdk_52_method_16_code 58 = .ok (.areturn, 1) := by decide +kernel
theorem pn_7 : plainName "java/lang/StringUTF16" = true := by first | (simp [plainName, overriddenIn]; done) | decide +kernel
theorem pd7_0 : parseMethodDescriptor "([CI[BII)I" = some ⟨[(.array .char), .int, (.array .byte), .int, .int], some .int⟩ := by decide +kernel
theorem ef_7 (m : MethodId) (a1 : Addr) (z : Int32) : entryFrame m #[(.ref a1), (.int (0 : Int32)), (.int z)] 6 = mkF m 0 #[.val (.ref a1), .val (.int (0 : Int32)), .val (.int z), .unset, .unset, .unset] [] := by first | (simp [entryFrame, mkF, argsToLocals, Value.category]; done) | rfl
def Q7 (Z : State) (a1 : Addr) (ka : ClassId) (z : Int32) (va : List Value) (h0 : Heap) (n0 : Nat) (v : Option Value) (h : Heap) (L : List Loc) : Prop := ∃ (b : Addr) (kb : ClassId) (vs : List Value), v = some (.ref b) ∧ Fr n0 L ∧ Keep h0 h [] ∧ n0 ≤ b ∧ h0.size ≤ b ∧ Arv Z h b kb .byte z vs (.int 0)
set_option maxRecDepth 65536 in
set_option maxHeartbeats 40000000 in
theorem rm7 (l : Launch) (Z : State) (a0 : Array Value) (hw : ∀ d ∈ tables_1, d.before a0 Z = true) (ws : List Jvm.Cond) (a1 : Addr) (ka : ClassId) (z : Int32) (va : List Value) (h0 : Heap) (n0 : Nat) (Z0 : n0 ≤ h0.size) (V_a1 : Arv Z h0 a1 ka .char z va (.int 0)) (hp : LatL va) (hneg : ¬ (z < (0 : Int32))) (hcap : (z).toNatClampNeg ≤ 16385) :
    MetFree l (⟨"java/lang/StringUTF16", "compress", "([CII)[B"⟩ : MethodName) (head1 (Jvm.Cond.code (⟨"java/lang/StringUTF16", "compress", "([CII)[B"⟩ : MethodName) jdk_52_method_16_code 6 (some (.array .byte)) :: ws) ({ frames := 1, cells := 1, slots := 16385, locals := 18 } : Room)) (fun a U => a = #[(.ref a1), (.int (0 : Int32)), (.int z)] ∧ Z.Warmed39 U.vm ∧ U.heap = h0) (fun _ _ _ _ _ => True) (fun _ U o U' => ∃ v L, o = .returned v ∧ Q7 Z a1 ka z va h0 n0 v U'.heap L ∧ FrameEnd U o U' L ({ frames := 1, cells := 1, slots := 16385, locals := 18 } : Room).cells ({ frames := 1, cells := 1, slots := 16385, locals := 18 } : Room).slots) := by
  refine MetFree.of_bodySF (plainFor_of_name pn_7) hisR ?_
  intro p e s m args below meth c s₁ Bd hml0 hP hK
  obtain ⟨rfl, hZ, hh⟩ := hP
  have hx := Bd.exec
  have hby := Bd.bytes
  have hml : c.maxLocals = 6 := hml0
  have hown : s.vm.findClass "java/lang/StringUTF16" = some m.cls := findClass_of_methodNamed Bd.named
  have hnm := (name_of_methodNamed Bd.named Bd.method).1
  have X0 : Stand p l e ({ frames := 1, cells := 1, slots := 16385, locals := 18 } : Room) s m #[(.ref a1), (.int (0 : Int32)), (.int z)] below meth c s₁ [] 0 0 := Stand.of_body Bd
  have e0 : s₁.heap = h0 := by rw [← hh, Bd.state]; rfl
  have N0 := Fr.nil n0
  refine goB (ef_7 m a1 z) ?_
  show Go p.tables e below s₁ (mkF m 0 #[.val (.ref a1), .val (.int (0 : Int32)), .val (.int z), .unset, .unset, .unset] []) _
  refine go1 (fun _ => XS.iloadN X0.here hx rfl (hb hby d7_0) rfl) ?_
  show Go p.tables e below s₁ (mkF m 1 #[.val (.ref a1), .val (.int (0 : Int32)), .val (.int z), .unset, .unset, .unset] [(.int z)]) _
  obtain ⟨T1, h1, k1, X1, e1, E1, A1, st1⟩ := newP X0 hx hZ (hw _ (List.mem_of_getElem? (i := 16) rfl)) e0 (g := (mkF m 1 #[.val (.ref a1), .val (.int (0 : Int32)), .val (.int z), .unset, .unset, .unset] [(.int z)])) rfl (hb hby d7_1) rfl hneg (cap := 16385) hcap (by decide) (by decide) (by decide)
  obtain ⟨b1, g1⟩ : ∃ z, z = h0.size := ⟨_, rfl⟩
  rw [← g1] at A1 st1
  have g_b1 : n0 ≤ b1 := Nat.le_trans Z0 (Nat.le_of_eq g1.symm)
  have V_b1 : Arv Z h1 b1 k1 .byte z [] (.int 0) := Arv.new A1 hneg
  refine go1 st1 ?_
  show Go p.tables e below T1 (mkF m 3 #[.val (.ref a1), .val (.int (0 : Int32)), .val (.int z), .unset, .unset, .unset] [(.ref b1)]) _
  refine go1 (fun _ => XS.astoreN X1.here hx rfl (hb hby d7_3) rfl rfl (l' := #[.val (.ref a1), .val (.int (0 : Int32)), .val (.int z), .val (.ref b1), .unset, .unset]) rfl) ?_
  show Go p.tables e below T1 (mkF m 4 #[.val (.ref a1), .val (.int (0 : Int32)), .val (.int z), .val (.ref b1), .unset, .unset] []) _
  obtain ⟨vb1, Vp1, hlen1, -⟩ := own_arr V_b1
  refine go1 (fun _ => XS.aloadN X1.here hx rfl (hb hby d7_4) rfl rfl) ?_
  show Go p.tables e below T1 (mkF m 5 #[.val (.ref a1), .val (.int (0 : Int32)), .val (.int z), .val (.ref b1), .unset, .unset] [(.ref a1)]) _
  refine go1 (fun _ => XS.iloadN X1.here hx rfl (hb hby d7_5) rfl) ?_
  show Go p.tables e below T1 (mkF m 6 #[.val (.ref a1), .val (.int (0 : Int32)), .val (.int z), .val (.ref b1), .unset, .unset] [(.int (0 : Int32)), (.ref a1)]) _
  refine go1 (fun _ => XS.aloadN X1.here hx rfl (hb hby d7_6) rfl rfl) ?_
  show Go p.tables e below T1 (mkF m 7 #[.val (.ref a1), .val (.int (0 : Int32)), .val (.int z), .val (.ref b1), .unset, .unset] [(.ref b1), (.int (0 : Int32)), (.ref a1)]) _
  refine go1 (fun _ => XS.iconst X1.here hx rfl (hb hby d7_7)) ?_
  show Go p.tables e below T1 (mkF m 8 #[.val (.ref a1), .val (.int (0 : Int32)), .val (.int z), .val (.ref b1), .unset, .unset] [(.int (0 : Int32)), (.ref b1), (.int (0 : Int32)), (.ref a1)]) _
  refine go1 (fun _ => XS.iloadN X1.here hx rfl (hb hby d7_8) rfl) ?_
  show Go p.tables e below T1 (mkF m 9 #[.val (.ref a1), .val (.int (0 : Int32)), .val (.int z), .val (.ref b1), .unset, .unset] [(.int z), (.int (0 : Int32)), (.ref b1), (.int (0 : Int32)), (.ref a1)]) _
  obtain ⟨_, _, ⟨T2, L2, k2, n2⟩, -, X2, ⟨Lc2, hQ2, l2, y2, z2⟩, st2⟩ := Jvm.LawKit.callS X1 hx (y := (⟨"java/lang/StringUTF16", "compress", "([CI[BII)I"⟩ : MethodName)) hown (mvT hZ (hw _ (List.mem_of_getElem? (i := 42) rfl))) (mvT hZ (hw _ (List.mem_of_getElem? (i := 43) rfl))) (mvT hZ (hw _ (List.mem_of_getElem? (i := 40) rfl))) (mvT hZ (hw _ (List.mem_of_getElem? (i := 44) rfl))) (by decide) (backOf (W := 0) (rm8 l Z a0 hw [] a1 b1 ka k1 z va vb1 h1 n0 (Nat.le_trans Z0 E1.1) (V_a1.ext E1) Vp1 g_b1 (Nat.ne_of_lt (Nat.lt_of_lt_of_le V_a1.lt (Nat.le_of_eq g1.symm))) hp hlen1 hneg) hZ (hw _ (List.mem_of_getElem? (i := 44) rfl)) (hw _ (List.mem_of_getElem? (i := 40) rfl)) (by decide) (by decide)) (g := (mkF m 9 #[.val (.ref a1), .val (.int (0 : Int32)), .val (.int z), .val (.ref b1), .unset, .unset] [(.int z), (.int (0 : Int32)), (.ref b1), (.int (0 : Int32)), (.ref a1)])) rfl (by rw [hml]; rfl) (argsL := [(.ref a1), (.int (0 : Int32)), (.ref b1), (.int (0 : Int32)), (.int z)]) (rest := []) (lenOf pd7_0 rfl) rfl (by show 2 * 0 + _ ≤ _; exact Nat.le_of_eq rfl) (hb hby d7_9) (fun _ _ => ⟨rfl, e1, (by decide : 1 + 0 ≤ _), (by decide : 16385 + 0 ≤ _)⟩)
  dsimp only [Pt.U, Pt.locs, Pt.cells, Pt.slots] at X2 l2 y2 z2 st2 hQ2
  subst l2 y2 z2
  obtain ⟨vs3, rfl, N2q, K2, G2_0⟩ := hQ2
  have N2 := Fr.app N0 N2q
  refine go1 st2 ?_
  show Go p.tables e below T2 (mkF m 12 #[.val (.ref a1), .val (.int (0 : Int32)), .val (.int z), .val (.ref b1), .unset, .unset] [(.int z)]) _
  refine go1 (fun _ => XS.istore X2.here hx rfl (hb hby d7_12) rfl (l' := #[.val (.ref a1), .val (.int (0 : Int32)), .val (.int z), .val (.ref b1), .val (.int z), .unset]) rfl) ?_
  show Go p.tables e below T2 (mkF m 14 #[.val (.ref a1), .val (.int (0 : Int32)), .val (.int z), .val (.ref b1), .val (.int z), .unset] []) _
  refine go1 (fun _ => XS.iload X2.here hx rfl (hb hby d7_14) rfl) ?_
  show Go p.tables e below T2 (mkF m 16 #[.val (.ref a1), .val (.int (0 : Int32)), .val (.int z), .val (.ref b1), .val (.int z), .unset] [(.int z)]) _
  refine go1 (fun _ => XS.iloadN X2.here hx rfl (hb hby d7_16) rfl) ?_
  show Go p.tables e below T2 (mkF m 17 #[.val (.ref a1), .val (.int (0 : Int32)), .val (.int z), .val (.ref b1), .val (.int z), .unset] [(.int z), (.int z)]) _
  refine go1 (fun _ => XS.icmpYes X2.here hx rfl (pc0 := 17) (pc' := 57) rfl (hb hby d7_17) rfl (teq (rfl : z = z)).1 (by decide) (by decide)) ?_
  show Go p.tables e below T2 (mkF m 57 #[.val (.ref a1), .val (.int (0 : Int32)), .val (.int z), .val (.ref b1), .val (.int z), .unset] []) _
  refine go1 (fun _ => XS.aloadN X2.here hx rfl (hb hby d7_57) rfl rfl) ?_
  show Go p.tables e below T2 (mkF m 58 #[.val (.ref a1), .val (.int (0 : Int32)), .val (.int z), .val (.ref b1), .val (.int z), .unset] [(.ref b1)]) _
  refine goR X2 (BodyLoose.notSynchronized Bd) (v := (some (.ref b1))) (fun h => by rw [Bd.returns] at h; cases h) (Q7 Z a1 ka z va h0 n0) (fun fs hr => retOut X2 hx (t := (.array .byte)) (w := (.ref b1)) Bd.returns rfl (Or.inr (Or.inr (Or.inr (Or.inr ⟨rfl, rfl, rfl⟩)))) (hb hby d7_58) hr) (by decide) (by decide) ?_
  show Q7 Z a1 ka z va h0 n0 _ T2.heap _
  exact ⟨b1, k1, vs3, rfl, N2, (((Keep.refl h0 []).ext E1).trans K2 (allS (Or.inr (Nat.le_trans (Nat.le_refl h0.size) (Nat.le_of_eq g1.symm))) all0)), g_b1, (Nat.le_trans (Nat.le_refl h0.size) (Nat.le_of_eq g1.symm)), G2_0⟩
theorem d9_0 : decode jdk_52_method_15_code 0 = .ok (.iload_n 1, 1) := by decide +kernel
theorem d9_1 : decode jdk_52_method_15_code 1 = .ok (.aload_n 0, 1) := by decide +kernel
theorem d9_2 : decode jdk_52_method_15_code 2 = .ok (.arraylength, 1) := by decide +kernel
theorem d9_3 : decode jdk_52_method_15_code 3 = .ok (.isub, 1) := by decide +kernel
theorem d9_4 : decode jdk_52_method_15_code 4 = .ok (.bipush 31, 2) := by decide +kernel
theorem d9_6 : decode jdk_52_method_15_code 6 = .ok (.iushr, 1) := by decide +kernel
theorem d9_7 : decode jdk_52_method_15_code 7 = .ok (.i2b, 1) := by decide +kernel
theorem d9_8 : decode jdk_52_method_15_code 8 = .ok (.ireturn, 1) := by decide +kernel
theorem pn_9 : plainName "java/lang/StringUTF16" = true := by first | (simp [plainName, overriddenIn]; done) | decide +kernel
theorem ef_9 (m : MethodId) (b1 : Addr) (z : Int32) : entryFrame m #[(.ref b1), (.int z)] 2 = mkF m 0 #[.val (.ref b1), .val (.int z)] [] := by first | (simp [entryFrame, mkF, argsToLocals, Value.category]; done) | rfl
def Q9 (Z : State) (b1 : Addr) (kb : ClassId) (z : Int32) (vs : List Value) (h0 : Heap) (n0 : Nat) (v : Option Value) (h : Heap) (L : List Loc) : Prop := v = some (.int (0 : Int32)) ∧ Fr n0 L ∧ h = h0
set_option maxRecDepth 65536 in
set_option maxHeartbeats 40000000 in
theorem rm9 (l : Launch) (Z : State) (a0 : Array Value) (hw : ∀ d ∈ tables_1, d.before a0 Z = true) (ws : List Jvm.Cond) (b1 : Addr) (kb : ClassId) (z : Int32) (vs : List Value) (h0 : Heap) (n0 : Nat) (Z0 : n0 ≤ h0.size) (V_b1 : Arv Z h0 b1 kb .byte z vs (.int 0)) :
    MetFree l (⟨"java/lang/StringUTF16", "coderFromArrayLen", "([BI)B"⟩ : MethodName) (head1 (Jvm.Cond.code (⟨"java/lang/StringUTF16", "coderFromArrayLen", "([BI)B"⟩ : MethodName) jdk_52_method_15_code 2 (some .byte) :: ws) ({ frames := 0, cells := 0, slots := 0, locals := 0 } : Room)) (fun a U => a = #[(.ref b1), (.int z)] ∧ Z.Warmed39 U.vm ∧ U.heap = h0) (fun _ _ _ _ _ => True) (fun _ U o U' => ∃ v L, o = .returned v ∧ Q9 Z b1 kb z vs h0 n0 v U'.heap L ∧ FrameEnd U o U' L ({ frames := 0, cells := 0, slots := 0, locals := 0 } : Room).cells ({ frames := 0, cells := 0, slots := 0, locals := 0 } : Room).slots) := by
  refine MetFree.of_bodySF (plainFor_of_name pn_9) hisR ?_
  intro p e s m args below meth c s₁ Bd hml0 hP hK
  obtain ⟨rfl, hZ, hh⟩ := hP
  have hx := Bd.exec
  have hby := Bd.bytes
  have hml : c.maxLocals = 2 := hml0
  have hown : s.vm.findClass "java/lang/StringUTF16" = some m.cls := findClass_of_methodNamed Bd.named
  have hnm := (name_of_methodNamed Bd.named Bd.method).1
  have X0 : Stand p l e ({ frames := 0, cells := 0, slots := 0, locals := 0 } : Room) s m #[(.ref b1), (.int z)] below meth c s₁ [] 0 0 := Stand.of_body Bd
  have e0 : s₁.heap = h0 := by rw [← hh, Bd.state]; rfl
  have N0 := Fr.nil n0
  refine goB (ef_9 m b1 z) ?_
  show Go p.tables e below s₁ (mkF m 0 #[.val (.ref b1), .val (.int z)] []) _
  refine go1 (fun _ => XS.iloadN X0.here hx rfl (hb hby d9_0) rfl) ?_
  show Go p.tables e below s₁ (mkF m 1 #[.val (.ref b1), .val (.int z)] [(.int z)]) _
  refine go1 (fun _ => XS.aloadN X0.here hx rfl (hb hby d9_1) rfl rfl) ?_
  show Go p.tables e below s₁ (mkF m 2 #[.val (.ref b1), .val (.int z)] [(.ref b1), (.int z)]) _
  have vo1 := V_b1
  obtain ⟨cl1, Ar1, -, S1, M1, -, -⟩ := vo1
  refine go1 (T' := s₁) (g' := (mkF m 3 #[.val (.ref b1), .val (.int z)] [(.int z), (.int z)])) (fun t k => ?_) ?_
  · refine X0.arraylength hx (by rw [e0]; exact Ar1.1) (State.isArrayOf_alike hZ.alike Ar1.2.1) (g := (mkF m 2 #[.val (.ref b1), .val (.int z)] [(.ref b1), (.int z)])) rfl rfl (hb hby d9_2) _ ?_
    rw [len_of S1 M1]
    exact k
  show Go p.tables e below s₁ (mkF m 3 #[.val (.ref b1), .val (.int z)] [(.int z), (.int z)]) _
  refine go1 (fun _ => XS.isub X0.here hx rfl (hb hby d9_3) rfl) ?_
  show Go p.tables e below s₁ (mkF m 4 #[.val (.ref b1), .val (.int z)] [(.int (z - z))]) _
  refine go1 (fun _ => XS.bipush X0.here hx rfl (hb hby d9_4)) ?_
  show Go p.tables e below s₁ (mkF m 6 #[.val (.ref b1), .val (.int z)] [(.int (31 : Int32)), (.int (z - z))]) _
  refine go1 (fun _ => XS.iushr X0.here hx rfl (hb hby d9_6) rfl) ?_
  show Go p.tables e below s₁ (mkF m 7 #[.val (.ref b1), .val (.int z)] [(.int (((z - z).toUInt32 >>> ((31 : Int32) &&& 31).toUInt32).toInt32))]) _
  refine go1 (fun _ => XS.i2b X0.here hx rfl (hb hby d9_7) rfl) ?_
  show Go p.tables e below s₁ (mkF m 8 #[.val (.ref b1), .val (.int z)] [(.int ((((z - z).toUInt32 >>> ((31 : Int32) &&& 31).toUInt32).toInt32).toInt8.toInt32))]) _
  refine goR X0 (BodyLoose.notSynchronized Bd) (v := (some (.int (nar .byte ((((z - z).toUInt32 >>> ((31 : Int32) &&& 31).toUInt32).toInt32).toInt8.toInt32))))) (fun h => by rw [Bd.returns] at h; cases h) (Q9 Z b1 kb z vs h0 n0) (fun fs hr => retN X0 hx (t := .byte) Bd.returns (by simp) (hb hby d9_8) hr) (by decide) (by decide) ?_
  show Q9 Z b1 kb z vs h0 n0 _ s₁.heap _
  rw [e0]
  exact ⟨(congrArg (fun q => some (Value.int q)) (own_coder z)), N0, rfl⟩
theorem d2_0 : decode jdk_42_method_149_code 0 = .ok (.aload_n 0, 1) := by decide +kernel
theorem d2_1 : decode jdk_42_method_149_code 1 = .ok (.invokespecial 1, 3) := by decide +kernel
theorem d2_4 : decode jdk_42_method_149_code 4 = .ok (.iload_n 3, 1) := by decide +kernel
theorem d2_5 : decode jdk_42_method_149_code 5 = .ok (.ifCond .ne 22, 3) := by decide +kernel
theorem d2_27 : decode jdk_42_method_149_code 27 = .ok (.getstatic 38, 3) := by decide +kernel
theorem d2_30 : decode jdk_42_method_149_code 30 = .ok (.ifCond .eq 28, 3) := by decide +kernel
theorem d2_33 : decode jdk_42_method_149_code 33 = .ok (.aload_n 1, 1) := by decide +kernel
theorem d2_34 : decode jdk_42_method_149_code 34 = .ok (.iload_n 2, 1) := by decide +kernel
theorem d2_35 : decode jdk_42_method_149_code 35 = .ok (.iload_n 3, 1) := by decide +kernel
theorem d2_36 : decode jdk_42_method_149_code 36 = .ok (.invokestatic 177, 3) := by decide +kernel
theorem d2_39 : decode jdk_42_method_149_code 39 = .ok (.astore 5, 2) := by decide +kernel
theorem d2_41 : decode jdk_42_method_149_code 41 = .ok (.aload_n 0, 1) := by decide +kernel
theorem d2_42 : decode jdk_42_method_149_code 42 = .ok (.aload 5, 2) := by decide +kernel
theorem d2_44 : decode jdk_42_method_149_code 44 = .ok (.iload_n 3, 1) := by decide +kernel
theorem d2_45 : decode jdk_42_method_149_code 45 = .ok (.invokestatic 47, 3) := by decide +kernel
theorem d2_48 : decode jdk_42_method_149_code 48 = .ok (.putfield 15, 3) := by decide +kernel
theorem d2_51 : decode jdk_42_method_149_code 51 = .ok (.aload_n 0, 1) := by decide +kernel
theorem d2_52 : decode jdk_42_method_149_code 52 = .ok (.aload 5, 2) := by decide +kernel
theorem d2_54 : decode jdk_42_method_149_code 54 = .ok (.putfield 9, 3) := by decide +kernel
theorem d2_57 : decode jdk_42_method_149_code 57 = .ok (.return_, 1) := by decide +kernel
theorem pn_2 : plainName "java/lang/String" = true := by first | (simp [plainName, overriddenIn]; done) | decide +kernel
theorem pd2_0 : parseMethodDescriptor "([CII)[B" = some ⟨[(.array .char), .int, .int], some (.array .byte)⟩ := by decide +kernel
theorem pd2_1 : parseMethodDescriptor "([BI)B" = some ⟨[(.array .byte), .int], some .byte⟩ := by decide +kernel
theorem ef_2 (m : MethodId) (b1 : Addr) (a1 : Addr) (z : Int32) : entryFrame m #[(.ref b1), (.ref a1), (.int (0 : Int32)), (.int z), .null] 6 = mkF m 0 #[.val (.ref b1), .val (.ref a1), .val (.int (0 : Int32)), .val (.int z), .val .null, .unset] [] := by first | (simp [entryFrame, mkF, argsToLocals, Value.category]; done) | rfl
def Q2 (Z : State) (b1 : Addr) (a1 : Addr) (ka : ClassId) (z : Int32) (va : List Value) (a_COMPACT_STRINGS : Int32) (h0 : Heap) (n0 : Nat) (v : Option Value) (h : Heap) (L : List Loc) : Prop := ∃ (t : Addr) (kt : ClassId) (vt : List Value), v = none ∧ Fr n0 L ∧ Keep h0 h [b1] ∧ Exa Z h b1 "java/lang/String" ∧ Fld Z h b1 "java/lang/String" "value" "[B" (.ref t) ∧ Fld Z h b1 "java/lang/String" "coder" "B" (.int (0 : Int32)) ∧ Arv Z h t kt .byte z vt (.int 0)
set_option maxRecDepth 65536 in
set_option maxHeartbeats 40000000 in
theorem rm2 (l : Launch) (Z : State) (a0 : Array Value) (hw : ∀ d ∈ tables_1, d.before a0 Z = true) (ws : List Jvm.Cond) (b1 : Addr) (a1 : Addr) (ka : ClassId) (z : Int32) (va : List Value) (a_COMPACT_STRINGS : Int32) (h0 : Heap) (n0 : Nat) (Z0 : n0 ≤ h0.size) (F_value_b1 : Fld Z h0 b1 "java/lang/String" "value" "[B" .null) (F_coder_b1 : Fld Z h0 b1 "java/lang/String" "coder" "B" (.int (0 : Int32))) (E_b1 : Exa Z h0 b1 "java/lang/String") (g_b1 : n0 ≤ b1) (O0 : Old Z n0 h0) (S_COMPACT_STRINGS : Sta Z Z.heap "java/lang/String" "COMPACT_STRINGS" "Z" (.int a_COMPACT_STRINGS)) (P_a_COMPACT_STRINGS : ¬ (a_COMPACT_STRINGS = (0 : Int32))) (V_a1 : Arv Z h0 a1 ka .char z va (.int 0)) (hp : LatL va) (hnz : ¬ (z = (0 : Int32))) (hne : a1 ≠ b1) (hneg : ¬ (z < (0 : Int32))) (hcap : (z).toNatClampNeg ≤ 16385) :
    MetFree l (⟨"java/lang/String", "<init>", "([CIILjava/lang/Void;)V"⟩ : MethodName) (head1 (Jvm.Cond.code (⟨"java/lang/String", "<init>", "([CIILjava/lang/Void;)V"⟩ : MethodName) jdk_42_method_149_code 6 none :: ws) ({ frames := 2, cells := 1, slots := 16385, locals := 35 } : Room)) (fun a U => a = #[(.ref b1), (.ref a1), (.int (0 : Int32)), (.int z), .null] ∧ Z.Warmed39 U.vm ∧ U.heap = h0) (fun _ _ _ _ _ => True) (fun _ U o U' => ∃ v L, o = .returned v ∧ Q2 Z b1 a1 ka z va a_COMPACT_STRINGS h0 n0 v U'.heap L ∧ FrameEnd U o U' L ({ frames := 2, cells := 1, slots := 16385, locals := 35 } : Room).cells ({ frames := 2, cells := 1, slots := 16385, locals := 35 } : Room).slots) := by
  refine MetFree.of_bodySF (plainFor_of_name pn_2) hisR ?_
  intro p e s m args below meth c s₁ Bd hml0 hP hK
  obtain ⟨rfl, hZ, hh⟩ := hP
  have hx := Bd.exec
  have hby := Bd.bytes
  have hml : c.maxLocals = 6 := hml0
  have hown : s.vm.findClass "java/lang/String" = some m.cls := findClass_of_methodNamed Bd.named
  have hnm := (name_of_methodNamed Bd.named Bd.method).1
  have X0 : Stand p l e ({ frames := 2, cells := 1, slots := 16385, locals := 35 } : Room) s m #[(.ref b1), (.ref a1), (.int (0 : Int32)), (.int z), .null] below meth c s₁ [] 0 0 := Stand.of_body Bd
  have e0 : s₁.heap = h0 := by rw [← hh, Bd.state]; rfl
  have N0 := Fr.nil n0
  refine goB (ef_2 m b1 a1 z) ?_
  show Go p.tables e below s₁ (mkF m 0 #[.val (.ref b1), .val (.ref a1), .val (.int (0 : Int32)), .val (.int z), .val .null, .unset] []) _
  refine go1 (fun _ => XS.aloadN X0.here hx rfl (hb hby d2_0) rfl rfl) ?_
  show Go p.tables e below s₁ (mkF m 1 #[.val (.ref b1), .val (.ref a1), .val (.int (0 : Int32)), .val (.int z), .val .null, .unset] [(.ref b1)]) _
  obtain ⟨T1, X1, e1, st1⟩ := initO X0 hx hZ hown (hw _ (List.mem_of_getElem? (i := 12) rfl)) (hw _ (List.mem_of_getElem? (i := 13) rfl)) (hw _ (List.mem_of_getElem? (i := 14) rfl)) e0 (g := (mkF m 1 #[.val (.ref b1), .val (.ref a1), .val (.int (0 : Int32)), .val (.int z), .val .null, .unset] [(.ref b1)])) rfl (by rw [hml]; rfl) rfl (hb hby d2_1) (by decide) (W := 0) (by show 2 * 0 + _ ≤ _; exact Nat.le_of_eq rfl) (by decide)
  refine go1 st1 ?_
  show Go p.tables e below T1 (mkF m 4 #[.val (.ref b1), .val (.ref a1), .val (.int (0 : Int32)), .val (.int z), .val .null, .unset] []) _
  refine go1 (fun _ => XS.iloadN X1.here hx rfl (hb hby d2_4) rfl) ?_
  show Go p.tables e below T1 (mkF m 5 #[.val (.ref b1), .val (.ref a1), .val (.int (0 : Int32)), .val (.int z), .val .null, .unset] [(.int z)]) _
  refine go1 (fun _ => XS.ifYes X1.here hx rfl (pc0 := 5) (pc' := 27) rfl (hb hby d2_5) rfl ((if0 _ _).trans (feq hnz).2) (by decide) (by decide)) ?_
  show Go p.tables e below T1 (mkF m 27 #[.val (.ref b1), .val (.ref a1), .val (.int (0 : Int32)), .val (.int z), .val .null, .unset] []) _
  obtain ⟨T2, X2, e2, st2⟩ := getS2 X1 hx hZ hown (host := "") (Or.inl (hw _ (List.mem_of_getElem? (i := 37) rfl))) Via.refl e1 (S_COMPACT_STRINGS.ext O0.2) (g := (mkF m 27 #[.val (.ref b1), .val (.ref a1), .val (.int (0 : Int32)), .val (.int z), .val .null, .unset] [])) rfl (hb hby d2_27)
  refine go1 st2 ?_
  show Go p.tables e below T2 (mkF m 30 #[.val (.ref b1), .val (.ref a1), .val (.int (0 : Int32)), .val (.int z), .val .null, .unset] [(.int a_COMPACT_STRINGS)]) _
  refine go1 (fun _ => XS.ifNo X2.here hx rfl (hb hby d2_30) rfl ((if0 _ _).trans (feq P_a_COMPACT_STRINGS).1)) ?_
  show Go p.tables e below T2 (mkF m 33 #[.val (.ref b1), .val (.ref a1), .val (.int (0 : Int32)), .val (.int z), .val .null, .unset] []) _
  refine go1 (fun _ => XS.aloadN X2.here hx rfl (hb hby d2_33) rfl rfl) ?_
  show Go p.tables e below T2 (mkF m 34 #[.val (.ref b1), .val (.ref a1), .val (.int (0 : Int32)), .val (.int z), .val .null, .unset] [(.ref a1)]) _
  refine go1 (fun _ => XS.iloadN X2.here hx rfl (hb hby d2_34) rfl) ?_
  show Go p.tables e below T2 (mkF m 35 #[.val (.ref b1), .val (.ref a1), .val (.int (0 : Int32)), .val (.int z), .val .null, .unset] [(.int (0 : Int32)), (.ref a1)]) _
  refine go1 (fun _ => XS.iloadN X2.here hx rfl (hb hby d2_35) rfl) ?_
  show Go p.tables e below T2 (mkF m 36 #[.val (.ref b1), .val (.ref a1), .val (.int (0 : Int32)), .val (.int z), .val .null, .unset] [(.int z), (.int (0 : Int32)), (.ref a1)]) _
  obtain ⟨_, _, ⟨T3, L3, k3, n3⟩, -, X3, ⟨Lc3, hQ3, l3, y3, z3⟩, st3⟩ := Jvm.LawKit.callS X2 hx (y := (⟨"java/lang/StringUTF16", "compress", "([CII)[B"⟩ : MethodName)) hown (mvT hZ (hw _ (List.mem_of_getElem? (i := 38) rfl))) (mvT hZ (hw _ (List.mem_of_getElem? (i := 39) rfl))) (mvT hZ (hw _ (List.mem_of_getElem? (i := 40) rfl))) (mvT hZ (hw _ (List.mem_of_getElem? (i := 41) rfl))) (by decide) (backOf (W := 0) (rm7 l Z a0 hw [] a1 ka z va h0 n0 Z0 V_a1 hp hneg hcap) hZ (hw _ (List.mem_of_getElem? (i := 41) rfl)) (hw _ (List.mem_of_getElem? (i := 40) rfl)) (by decide) (by decide)) (g := (mkF m 36 #[.val (.ref b1), .val (.ref a1), .val (.int (0 : Int32)), .val (.int z), .val .null, .unset] [(.int z), (.int (0 : Int32)), (.ref a1)])) rfl (by rw [hml]; rfl) (argsL := [(.ref a1), (.int (0 : Int32)), (.int z)]) (rest := []) (lenOf pd2_0 rfl) rfl (by show 2 * 0 + _ ≤ _; exact Nat.le_of_eq rfl) (hb hby d2_36) (fun _ _ => ⟨rfl, e2, (by decide : 0 + 1 ≤ _), (by decide : 0 + 16385 ≤ _)⟩)
  dsimp only [Pt.U, Pt.locs, Pt.cells, Pt.slots] at X3 l3 y3 z3 st3 hQ3
  subst l3 y3 z3
  obtain ⟨b4, kb5, vs6, rfl, N3q, K3, G3_0, G3_1, G3_2⟩ := hQ3
  have N3 := Fr.app N0 N3q
  refine go1 st3 ?_
  show Go p.tables e below T3 (mkF m 39 #[.val (.ref b1), .val (.ref a1), .val (.int (0 : Int32)), .val (.int z), .val .null, .unset] [(.ref b4)]) _
  refine go1 (fun _ => XS.astore X3.here hx rfl (hb hby d2_39) rfl rfl (l' := #[.val (.ref b1), .val (.ref a1), .val (.int (0 : Int32)), .val (.int z), .val .null, .val (.ref b4)]) rfl) ?_
  show Go p.tables e below T3 (mkF m 41 #[.val (.ref b1), .val (.ref a1), .val (.int (0 : Int32)), .val (.int z), .val .null, .val (.ref b4)] []) _
  refine go1 (fun _ => XS.aloadN X3.here hx rfl (hb hby d2_41) rfl rfl) ?_
  show Go p.tables e below T3 (mkF m 42 #[.val (.ref b1), .val (.ref a1), .val (.int (0 : Int32)), .val (.int z), .val .null, .val (.ref b4)] [(.ref b1)]) _
  refine go1 (fun _ => XS.aload X3.here hx rfl (hb hby d2_42) rfl rfl) ?_
  show Go p.tables e below T3 (mkF m 44 #[.val (.ref b1), .val (.ref a1), .val (.int (0 : Int32)), .val (.int z), .val .null, .val (.ref b4)] [(.ref b4), (.ref b1)]) _
  refine go1 (fun _ => XS.iloadN X3.here hx rfl (hb hby d2_44) rfl) ?_
  show Go p.tables e below T3 (mkF m 45 #[.val (.ref b1), .val (.ref a1), .val (.int (0 : Int32)), .val (.int z), .val .null, .val (.ref b4)] [(.int z), (.ref b4), (.ref b1)]) _
  obtain ⟨_, _, ⟨T7, L7, k7, n7⟩, -, X7, ⟨Lc7, hQ7, l7, y7, z7⟩, st7⟩ := Jvm.LawKit.callS X3 hx (y := (⟨"java/lang/StringUTF16", "coderFromArrayLen", "([BI)B"⟩ : MethodName)) hown (mvT hZ (hw _ (List.mem_of_getElem? (i := 45) rfl))) (mvT hZ (hw _ (List.mem_of_getElem? (i := 46) rfl))) (mvT hZ (hw _ (List.mem_of_getElem? (i := 40) rfl))) (mvT hZ (hw _ (List.mem_of_getElem? (i := 47) rfl))) (by decide) (backOf (W := 1) (rm9 l Z a0 hw [] b4 kb5 z vs6 T3.heap n0 (Nat.le_trans Z0 K3.1) G3_2) hZ (hw _ (List.mem_of_getElem? (i := 47) rfl)) (hw _ (List.mem_of_getElem? (i := 40) rfl)) (by decide) (by decide)) (g := (mkF m 45 #[.val (.ref b1), .val (.ref a1), .val (.int (0 : Int32)), .val (.int z), .val .null, .val (.ref b4)] [(.int z), (.ref b4), (.ref b1)])) rfl (by rw [hml]; rfl) (argsL := [(.ref b4), (.int z)]) (rest := [(.ref b1)]) (lenOf pd2_1 rfl) rfl (by show 2 * 0 + _ ≤ _; exact Nat.le_of_eq rfl) (hb hby d2_45) (fun _ _ => ⟨rfl, rfl, (by decide : 1 + 0 ≤ _), (by decide : 16385 + 0 ≤ _)⟩)
  dsimp only [Pt.U, Pt.locs, Pt.cells, Pt.slots] at X7 l7 y7 z7 st7 hQ7
  subst l7 y7 z7
  obtain ⟨rfl, N7q, e7⟩ := hQ7
  have N7 := Fr.app N3 N7q
  refine go1 st7 ?_
  show Go p.tables e below T7 (mkF m 48 #[.val (.ref b1), .val (.ref a1), .val (.int (0 : Int32)), .val (.int z), .val .null, .val (.ref b4)] [(.int (0 : Int32)), (.ref b1)]) _
  obtain ⟨T8, h8, X8, e8, W8, st8⟩ := putFN X7 hx hZ hown (hw _ (List.mem_of_getElem? (i := 22) rfl)) Via.refl e7 (F_coder_b1.keep K3 nin0) (E_b1.keep K3) (Or.inr ⟨(hw _ (List.mem_of_getElem? (i := 18) rfl)), rfl, hnm⟩) (hw _ (List.mem_of_getElem? (i := 3) rfl)) (ty := .byte) (v' := (.int (0 : Int32))) (by decide) rfl (by decide) (g := (mkF m 48 #[.val (.ref b1), .val (.ref a1), .val (.int (0 : Int32)), .val (.int z), .val .null, .val (.ref b4)] [(.int (0 : Int32)), (.ref b1)])) rfl rfl (hb hby d2_48)
  refine go1 st8 ?_
  have Fw8 := (F_coder_b1.keep K3 nin0).same W8
  have N8 := Fr.snoc X8 N7 g_b1
  show Go p.tables e below T8 (mkF m 51 #[.val (.ref b1), .val (.ref a1), .val (.int (0 : Int32)), .val (.int z), .val .null, .val (.ref b4)] []) _
  refine go1 (fun _ => XS.aloadN X8.here hx rfl (hb hby d2_51) rfl rfl) ?_
  show Go p.tables e below T8 (mkF m 52 #[.val (.ref b1), .val (.ref a1), .val (.int (0 : Int32)), .val (.int z), .val .null, .val (.ref b4)] [(.ref b1)]) _
  refine go1 (fun _ => XS.aload X8.here hx rfl (hb hby d2_52) rfl rfl) ?_
  show Go p.tables e below T8 (mkF m 54 #[.val (.ref b1), .val (.ref a1), .val (.int (0 : Int32)), .val (.int z), .val .null, .val (.ref b4)] [(.ref b4), (.ref b1)]) _
  obtain ⟨T9, h9, X9, e9, W9, st9⟩ := putF X8 hx hZ hown (host := "") (Or.inl (hw _ (List.mem_of_getElem? (i := 21) rfl))) Via.refl e8 ((F_value_b1.keep K3 nin0).other W8 (Or.inr (slot_ne (Or.inr (hw _ (List.mem_of_getElem? (i := 17) rfl))) (Or.inr (hw _ (List.mem_of_getElem? (i := 18) rfl))) (by decide) (t := (.array .byte)) (t' := .byte) (by decide) (by decide)))) ((E_b1.keep K3).wr W8) (Or.inr ⟨(hw _ (List.mem_of_getElem? (i := 17) rfl)), rfl, hnm⟩) (hw _ (List.mem_of_getElem? (i := 3) rfl)) (ty := (.array .byte)) (by decide) rfl rfl (g := (mkF m 54 #[.val (.ref b1), .val (.ref a1), .val (.int (0 : Int32)), .val (.int z), .val .null, .val (.ref b4)] [(.ref b4), (.ref b1)])) rfl rfl (hb hby d2_54)
  refine go1 st9 ?_
  have Fw9 := ((F_value_b1.keep K3 nin0).other W8 (Or.inr (slot_ne (Or.inr (hw _ (List.mem_of_getElem? (i := 17) rfl))) (Or.inr (hw _ (List.mem_of_getElem? (i := 18) rfl))) (by decide) (t := (.array .byte)) (t' := .byte) (by decide) (by decide)))).same W9
  have N9 := Fr.snoc X9 N8 g_b1
  show Go p.tables e below T9 (mkF m 57 #[.val (.ref b1), .val (.ref a1), .val (.int (0 : Int32)), .val (.int z), .val .null, .val (.ref b4)] []) _
  refine goR X9 (BodyLoose.notSynchronized Bd) (v := none) (fun _ => rfl) (Q2 Z b1 a1 ka z va a_COMPACT_STRINGS h0 n0) (fun fs hr => X9.returnOut hx Bd.returns (hb hby d2_57) hr) (by decide) (by decide) ?_
  show Q2 Z b1 a1 ka z va a_COMPACT_STRINGS h0 n0 _ T9.heap _
  rw [e9]
  exact ⟨b4, kb5, vs6, rfl, N9, ((((Keep.refl h0 [b1]).trans K3 all0).wr W8 (Or.inl (List.mem_of_getElem? (i := 0) rfl))).wr W9 (Or.inl (List.mem_of_getElem? (i := 0) rfl))), (((E_b1.keep K3).wr W8).wr W9), Fw9, (Fw8.other W9 (Or.inr (slot_ne (Or.inr (hw _ (List.mem_of_getElem? (i := 18) rfl))) (Or.inr (hw _ (List.mem_of_getElem? (i := 17) rfl))) (by decide) (t := .byte) (t' := (.array .byte)) (by decide) (by decide)))), ((G3_2.other W8 (Ne.symm (Nat.ne_of_lt (Nat.lt_of_lt_of_le E_b1.lt G3_1)))).other W9 (Ne.symm (Nat.ne_of_lt (Nat.lt_of_lt_of_le E_b1.lt G3_1))))⟩
theorem d1_0 : decode jdk_42_method_3_code 0 = .ok (.aload_n 0, 1) := by decide +kernel
theorem d1_1 : decode jdk_42_method_3_code 1 = .ok (.aload_n 1, 1) := by decide +kernel
theorem d1_2 : decode jdk_42_method_3_code 2 = .ok (.iconst 0, 1) := by decide +kernel
theorem d1_3 : decode jdk_42_method_3_code 3 = .ok (.aload_n 1, 1) := by decide +kernel
theorem d1_4 : decode jdk_42_method_3_code 4 = .ok (.arraylength, 1) := by decide +kernel
theorem d1_5 : decode jdk_42_method_3_code 5 = .ok (.aconst_null, 1) := by decide +kernel
theorem d1_6 : decode jdk_42_method_3_code 6 = .ok (.invokespecial 27, 3) := by decide +kernel
theorem d1_9 : decode jdk_42_method_3_code 9 = .ok (.return_, 1) := by decide +kernel
theorem pn_1 : plainName "java/lang/String" = true := by first | (simp [plainName, overriddenIn]; done) | decide +kernel
theorem pd1_0 : parseMethodDescriptor "([CIILjava/lang/Void;)V" = some ⟨[(.array .char), .int, .int, (.object "java/lang/Void")], none⟩ := by decide +kernel
theorem ef_1 (m : MethodId) (b1 : Addr) (a1 : Addr) : entryFrame m #[(.ref b1), (.ref a1)] 2 = mkF m 0 #[.val (.ref b1), .val (.ref a1)] [] := by first | (simp [entryFrame, mkF, argsToLocals, Value.category]; done) | rfl
def Q1 (Z : State) (b1 : Addr) (a1 : Addr) (ka : ClassId) (z : Int32) (va : List Value) (a_COMPACT_STRINGS : Int32) (h0 : Heap) (n0 : Nat) (v : Option Value) (h : Heap) (L : List Loc) : Prop := ∃ (t : Addr) (kt : ClassId) (vt : List Value), v = none ∧ Fr n0 L ∧ Keep h0 h [b1] ∧ Exa Z h b1 "java/lang/String" ∧ Fld Z h b1 "java/lang/String" "value" "[B" (.ref t) ∧ Fld Z h b1 "java/lang/String" "coder" "B" (.int (0 : Int32)) ∧ Arv Z h t kt .byte z vt (.int 0)
set_option maxRecDepth 65536 in
set_option maxHeartbeats 40000000 in
theorem rm1 (l : Launch) (Z : State) (a0 : Array Value) (hw : ∀ d ∈ tables_1, d.before a0 Z = true) (ws : List Jvm.Cond) (b1 : Addr) (a1 : Addr) (ka : ClassId) (z : Int32) (va : List Value) (a_COMPACT_STRINGS : Int32) (h0 : Heap) (n0 : Nat) (Z0 : n0 ≤ h0.size) (F_value_b1 : Fld Z h0 b1 "java/lang/String" "value" "[B" .null) (F_coder_b1 : Fld Z h0 b1 "java/lang/String" "coder" "B" (.int (0 : Int32))) (E_b1 : Exa Z h0 b1 "java/lang/String") (g_b1 : n0 ≤ b1) (O0 : Old Z n0 h0) (S_COMPACT_STRINGS : Sta Z Z.heap "java/lang/String" "COMPACT_STRINGS" "Z" (.int a_COMPACT_STRINGS)) (P_a_COMPACT_STRINGS : ¬ (a_COMPACT_STRINGS = (0 : Int32))) (V_a1 : Arv Z h0 a1 ka .char z va (.int 0)) (hp : LatL va) (hnz : ¬ (z = (0 : Int32))) (hne : a1 ≠ b1) (hneg : ¬ (z < (0 : Int32))) (hcap : (z).toNatClampNeg ≤ 16385) :
    MetFree l (⟨"java/lang/String", "<init>", "([C)V"⟩ : MethodName) (head1 (Jvm.Cond.code (⟨"java/lang/String", "<init>", "([C)V"⟩ : MethodName) jdk_42_method_3_code 2 none :: ws) ({ frames := 3, cells := 1, slots := 16385, locals := 52 } : Room)) (fun a U => a = #[(.ref b1), (.ref a1)] ∧ Z.Warmed39 U.vm ∧ U.heap = h0) (fun _ _ _ _ _ => True) (fun _ U o U' => ∃ v L, o = .returned v ∧ Q1 Z b1 a1 ka z va a_COMPACT_STRINGS h0 n0 v U'.heap L ∧ FrameEnd U o U' L ({ frames := 3, cells := 1, slots := 16385, locals := 52 } : Room).cells ({ frames := 3, cells := 1, slots := 16385, locals := 52 } : Room).slots) := by
  refine MetFree.of_bodySF (plainFor_of_name pn_1) hisR ?_
  intro p e s m args below meth c s₁ Bd hml0 hP hK
  obtain ⟨rfl, hZ, hh⟩ := hP
  have hx := Bd.exec
  have hby := Bd.bytes
  have hml : c.maxLocals = 2 := hml0
  have hown : s.vm.findClass "java/lang/String" = some m.cls := findClass_of_methodNamed Bd.named
  have hnm := (name_of_methodNamed Bd.named Bd.method).1
  have X0 : Stand p l e ({ frames := 3, cells := 1, slots := 16385, locals := 52 } : Room) s m #[(.ref b1), (.ref a1)] below meth c s₁ [] 0 0 := Stand.of_body Bd
  have e0 : s₁.heap = h0 := by rw [← hh, Bd.state]; rfl
  have N0 := Fr.nil n0
  refine goB (ef_1 m b1 a1) ?_
  show Go p.tables e below s₁ (mkF m 0 #[.val (.ref b1), .val (.ref a1)] []) _
  refine go1 (fun _ => XS.aloadN X0.here hx rfl (hb hby d1_0) rfl rfl) ?_
  show Go p.tables e below s₁ (mkF m 1 #[.val (.ref b1), .val (.ref a1)] [(.ref b1)]) _
  refine go1 (fun _ => XS.aloadN X0.here hx rfl (hb hby d1_1) rfl rfl) ?_
  show Go p.tables e below s₁ (mkF m 2 #[.val (.ref b1), .val (.ref a1)] [(.ref a1), (.ref b1)]) _
  refine go1 (fun _ => XS.iconst X0.here hx rfl (hb hby d1_2)) ?_
  show Go p.tables e below s₁ (mkF m 3 #[.val (.ref b1), .val (.ref a1)] [(.int (0 : Int32)), (.ref a1), (.ref b1)]) _
  refine go1 (fun _ => XS.aloadN X0.here hx rfl (hb hby d1_3) rfl rfl) ?_
  show Go p.tables e below s₁ (mkF m 4 #[.val (.ref b1), .val (.ref a1)] [(.ref a1), (.int (0 : Int32)), (.ref a1), (.ref b1)]) _
  have vo1 := V_a1
  obtain ⟨cl1, Ar1, -, S1, M1, -, -⟩ := vo1
  refine go1 (T' := s₁) (g' := (mkF m 5 #[.val (.ref b1), .val (.ref a1)] [(.int z), (.int (0 : Int32)), (.ref a1), (.ref b1)])) (fun t k => ?_) ?_
  · refine X0.arraylength hx (by rw [e0]; exact Ar1.1) (State.isArrayOf_alike hZ.alike Ar1.2.1) (g := (mkF m 4 #[.val (.ref b1), .val (.ref a1)] [(.ref a1), (.int (0 : Int32)), (.ref a1), (.ref b1)])) rfl rfl (hb hby d1_4) _ ?_
    rw [len_of S1 M1]
    exact k
  show Go p.tables e below s₁ (mkF m 5 #[.val (.ref b1), .val (.ref a1)] [(.int z), (.int (0 : Int32)), (.ref a1), (.ref b1)]) _
  refine go1 (fun _ => XS.aconstNull X0.here hx rfl (hb hby d1_5)) ?_
  show Go p.tables e below s₁ (mkF m 6 #[.val (.ref b1), .val (.ref a1)] [.null, (.int z), (.int (0 : Int32)), (.ref a1), (.ref b1)]) _
  obtain ⟨_, _, ⟨T2, L2, k2, n2⟩, -, X2, ⟨Lc2, hQ2, l2, y2, z2⟩, st2⟩ := X0.specialBack hx (y := (⟨"java/lang/String", "<init>", "([CIILjava/lang/Void;)V"⟩ : MethodName)) rfl hown (mvT hZ (hw _ (List.mem_of_getElem? (i := 8) rfl))) (mvT hZ (hw _ (List.mem_of_getElem? (i := 9) rfl))) (mvT hZ (hw _ (List.mem_of_getElem? (i := 11) rfl))) (by decide) (backOf (W := 0) (rm2 l Z a0 hw [] b1 a1 ka z va a_COMPACT_STRINGS h0 n0 Z0 F_value_b1 F_coder_b1 E_b1 g_b1 O0 S_COMPACT_STRINGS P_a_COMPACT_STRINGS V_a1 hp hnz hne hneg hcap) hZ (hw _ (List.mem_of_getElem? (i := 11) rfl)) (hw _ (List.mem_of_getElem? (i := 4) rfl)) (by decide) (by decide)) (g := (mkF m 6 #[.val (.ref b1), .val (.ref a1)] [.null, (.int z), (.int (0 : Int32)), (.ref a1), (.ref b1)])) rfl (by rw [hml]; rfl) (Steps.refl _) (a := b1) (argsL := [(.ref a1), (.int (0 : Int32)), (.int z), .null]) (rest := []) (lenOf pd1_0 rfl) rfl (by show 2 * 0 + _ ≤ _; exact Nat.le_of_eq rfl) (hb hby d1_6) (fun _ _ => ⟨rfl, e0, (by decide : 0 + 1 ≤ _), (by decide : 0 + 16385 ≤ _)⟩)
  dsimp only [Pt.U, Pt.locs, Pt.cells, Pt.slots] at X2 l2 y2 z2 st2 hQ2
  subst l2 y2 z2
  obtain ⟨t3, kt4, vt5, rfl, N2q, K2, G2_0, G2_1, G2_2, G2_3⟩ := hQ2
  have N2 := Fr.app N0 N2q
  refine goT st2 ?_
  show Go p.tables e below T2 (mkF m 9 #[.val (.ref b1), .val (.ref a1)] []) _
  refine goR X2 (BodyLoose.notSynchronized Bd) (v := none) (fun _ => rfl) (Q1 Z b1 a1 ka z va a_COMPACT_STRINGS h0 n0) (fun fs hr => X2.returnOut hx Bd.returns (hb hby d1_9) hr) (by decide) (by decide) ?_
  show Q1 Z b1 a1 ka z va a_COMPACT_STRINGS h0 n0 _ T2.heap _
  exact ⟨t3, kt4, vt5, rfl, N2, ((Keep.refl h0 [b1]).trans K2 (allS (Or.inl (List.mem_of_getElem? (i := 0) rfl)) all0)), G2_0, G2_1, G2_2, G2_3⟩
theorem d2_8 : decode jdk_42_method_149_code 8 = .ok (.aload_n 0, 1) := by decide +kernel
theorem d2_9 : decode jdk_42_method_149_code 9 = .ok (.ldc 7, 2) := by decide +kernel
theorem d2_11 : decode jdk_42_method_149_code 11 = .ok (.getfield 9, 3) := by decide +kernel
theorem d2_14 : decode jdk_42_method_149_code 14 = .ok (.putfield 9, 3) := by decide +kernel
theorem d2_17 : decode jdk_42_method_149_code 17 = .ok (.aload_n 0, 1) := by decide +kernel
theorem d2_18 : decode jdk_42_method_149_code 18 = .ok (.ldc 7, 2) := by decide +kernel
theorem d2_20 : decode jdk_42_method_149_code 20 = .ok (.getfield 15, 3) := by decide +kernel
theorem d2_23 : decode jdk_42_method_149_code 23 = .ok (.putfield 15, 3) := by decide +kernel
theorem d2_26 : decode jdk_42_method_149_code 26 = .ok (.return_, 1) := by decide +kernel
theorem pn_s5z : plainName "java/lang/String" = true := by first | (simp [plainName, overriddenIn]; done) | decide +kernel
theorem ef_s5z (m : MethodId) (b1 : Addr) (a1 : Addr) : entryFrame m #[(.ref b1), (.ref a1), (.int (0 : Int32)), (.int (0 : Int32)), .null] 6 = mkF m 0 #[.val (.ref b1), .val (.ref a1), .val (.int (0 : Int32)), .val (.int (0 : Int32)), .val .null, .unset] [] := by first | (simp [entryFrame, mkF, argsToLocals, Value.category]; done) | rfl
def Qs5z (Z : State) (b1 : Addr) (a1 : Addr) (h0 : Heap) (n0 : Nat) (v : Option Value) (h : Heap) (L : List Loc) : Prop := ∃ (t : Addr) (kt : ClassId), v = none ∧ Fr n0 L ∧ Keep h0 h [b1] ∧ Exa Z h b1 "java/lang/String" ∧ Fld Z h b1 "java/lang/String" "value" "[B" (.ref t) ∧ Fld Z h b1 "java/lang/String" "coder" "B" (.int (0 : Int32)) ∧ Arv Z h t kt .byte (0 : Int32) [] (.int 0)
set_option maxRecDepth 65536 in
set_option maxHeartbeats 40000000 in
theorem rms5z (l : Launch) (Z : State) (a0 : Array Value) (hw : ∀ d ∈ tables_1, d.before a0 Z = true) (ws : List Jvm.Cond) (b1 : Addr) (a1 : Addr) (h0 : Heap) (n0 : Nat) (Z0 : n0 ≤ h0.size) (F_value_b1 : Fld Z h0 b1 "java/lang/String" "value" "[B" .null) (F_coder_b1 : Fld Z h0 b1 "java/lang/String" "coder" "B" (.int (0 : Int32))) (E_b1 : Exa Z h0 b1 "java/lang/String") (g_b1 : n0 ≤ b1) :
    MetFree l (⟨"java/lang/String", "<init>", "([CIILjava/lang/Void;)V"⟩ : MethodName) (head1 (Jvm.Cond.code (⟨"java/lang/String", "<init>", "([CIILjava/lang/Void;)V"⟩ : MethodName) jdk_42_method_149_code 6 none :: ws) ({ frames := 1, cells := 2, slots := 4, locals := 12 } : Room)) (fun a U => a = #[(.ref b1), (.ref a1), (.int (0 : Int32)), (.int (0 : Int32)), .null] ∧ Z.Warmed39 U.vm ∧ U.heap = h0 ∧ CHv Z consts_1 U.vm h0) (fun _ _ _ _ _ => True) (fun _ U o U' => ∃ v L, o = .returned v ∧ Qs5z Z b1 a1 h0 n0 v U'.heap L ∧ ReturnedEndW U o U' L ({ frames := 1, cells := 2, slots := 4, locals := 12 } : Room).cells ({ frames := 1, cells := 2, slots := 4, locals := 12 } : Room).slots) := by
  refine MetFree.of_bodySF (plainFor_of_name pn_s5z) hisR ?_
  intro p e s m args below meth c s₁ Bd hml0 hP hK
  obtain ⟨rfl, hZ, hh, hCH⟩ := hP
  have hx := Bd.exec
  have hby := Bd.bytes
  have hml : c.maxLocals = 6 := hml0
  have hown : s.vm.findClass "java/lang/String" = some m.cls := findClass_of_methodNamed Bd.named
  have hnm := (name_of_methodNamed Bd.named Bd.method).1
  have X0 : Stand p l e ({ frames := 1, cells := 2, slots := 4, locals := 12 } : Room) (s.setVm s.vm) m #[(.ref b1), (.ref a1), (.int (0 : Int32)), (.int (0 : Int32)), .null] below meth c s₁ [] 0 0 := Stand.of_body Bd
  have e0 : s₁.heap = h0 := by rw [← hh, Bd.state]; rfl
  have N0 := Fr.nil n0
  have hS0 : s.Since s.vm 0 := (State.WarmedH.refl s).since 0
  have wS : ∀ d ∈ Bundle.stringAtoms, d.before a0 Z = true := by
    intro d hd
    simp only [Bundle.stringAtoms, List.mem_cons, List.not_mem_nil, or_false] at hd
    rcases hd with rfl | rfl | rfl | rfl | rfl | rfl | rfl
    · exact (hw _ (List.mem_of_getElem? (i := 4) rfl))
    · exact (hw _ (List.mem_of_getElem? (i := 3) rfl))
    · exact (hw _ (List.mem_of_getElem? (i := 16) rfl))
    · exact (hw _ (List.mem_of_getElem? (i := 17) rfl))
    · exact (hw _ (List.mem_of_getElem? (i := 18) rfl))
    · exact (hw _ (List.mem_of_getElem? (i := 19) rfl))
    · exact (hw _ (List.mem_of_getElem? (i := 20) rfl))
  have hEL : EW Z a0 consts_1 := EW.cons (hw _ (List.mem_of_getElem? (i := 15) rfl)) (fun c hc => by simp at hc) EW.nil
  refine goB (ef_s5z m b1 a1) ?_
  show Go p.tables e below s₁ (mkF m 0 #[.val (.ref b1), .val (.ref a1), .val (.int (0 : Int32)), .val (.int (0 : Int32)), .val .null, .unset] []) _
  refine go1 (fun _ => XS.aloadN X0.here hx rfl (hb hby d2_0) rfl rfl) ?_
  show Go p.tables e below s₁ (mkF m 1 #[.val (.ref b1), .val (.ref a1), .val (.int (0 : Int32)), .val (.int (0 : Int32)), .val .null, .unset] [(.ref b1)]) _
  obtain ⟨T1, X1, e1, st1⟩ := initO X0 hx hZ hown (hw _ (List.mem_of_getElem? (i := 12) rfl)) (hw _ (List.mem_of_getElem? (i := 13) rfl)) (hw _ (List.mem_of_getElem? (i := 14) rfl)) e0 (g := (mkF m 1 #[.val (.ref b1), .val (.ref a1), .val (.int (0 : Int32)), .val (.int (0 : Int32)), .val .null, .unset] [(.ref b1)])) rfl (by rw [hml]; rfl) rfl (hb hby d2_1) (by decide) (W := 0) (by show 2 * 0 + _ ≤ _; exact Nat.le_of_eq rfl) (by decide)
  refine go1 st1 ?_
  show Go p.tables e below T1 (mkF m 4 #[.val (.ref b1), .val (.ref a1), .val (.int (0 : Int32)), .val (.int (0 : Int32)), .val .null, .unset] []) _
  refine go1 (fun _ => XS.iloadN X1.here hx rfl (hb hby d2_4) rfl) ?_
  show Go p.tables e below T1 (mkF m 5 #[.val (.ref b1), .val (.ref a1), .val (.int (0 : Int32)), .val (.int (0 : Int32)), .val .null, .unset] [(.int (0 : Int32))]) _
  refine go1 (fun _ => XS.ifNo X1.here hx rfl (hb hby d2_5) rfl ((if0 _ _).trans (teq (by decide : (0 : Int32) = (0 : Int32))).2)) ?_
  show Go p.tables e below T1 (mkF m 8 #[.val (.ref b1), .val (.ref a1), .val (.int (0 : Int32)), .val (.int (0 : Int32)), .val .null, .unset] []) _
  refine go1 (fun _ => XS.aloadN X1.here hx rfl (hb hby d2_8) rfl rfl) ?_
  show Go p.tables e below T1 (mkF m 9 #[.val (.ref b1), .val (.ref a1), .val (.int (0 : Int32)), .val (.int (0 : Int32)), .val .null, .unset] [(.ref b1)]) _
  obtain ⟨b2, T2, h2, kk2, t2, kt2, X2, e2, E2, hS2, hk2, hZ2, hown2, Ea2, Fc2, Fv2, Vt2, -, -, -, Lt2, -, st2⟩ := ldcCH (s := s) (vm0 := s.vm) X1 hx hZ hown (hw _ (List.mem_of_getElem? (i := 15) rfl)) wS e1 hS0 (Nat.zero_le _) hEL (List.mem_singleton.mpr rfl) hCH (vs := []) (z := (0 : Int32)) ⟨fun c hc => by simp at hc, rfl⟩ (by decide) (by decide) (g := (mkF m 9 #[.val (.ref b1), .val (.ref a1), .val (.int (0 : Int32)), .val (.int (0 : Int32)), .val .null, .unset] [(.ref b1)])) rfl (hb hby d2_9) (n := 0) (by decide) (by decide) (by decide) (by decide)
  refine go1 st2 ?_
  have ne2 : t2 ≠ b1 := by
    obtain ⟨_, A, -⟩ := Vt2
    exact Ne.symm (ne_arr (E_b1.ext E2) (hw _ (List.mem_of_getElem? (i := 3) rfl)) A)
  show Go p.tables e below T2 (mkF m 11 #[.val (.ref b1), .val (.ref a1), .val (.int (0 : Int32)), .val (.int (0 : Int32)), .val .null, .unset] [(.ref b2), (.ref b1)]) _
  obtain ⟨T3, X3, e3, st3⟩ := getF X2 hx hZ2 hown2 (host := "") (Or.inl (hw _ (List.mem_of_getElem? (i := 21) rfl))) Via.refl e2 Fv2 (g := (mkF m 11 #[.val (.ref b1), .val (.ref a1), .val (.int (0 : Int32)), .val (.int (0 : Int32)), .val .null, .unset] [(.ref b2), (.ref b1)])) rfl rfl (hb hby d2_11)
  refine go1 st3 ?_
  show Go p.tables e below T3 (mkF m 14 #[.val (.ref b1), .val (.ref a1), .val (.int (0 : Int32)), .val (.int (0 : Int32)), .val .null, .unset] [(.ref t2), (.ref b1)]) _
  obtain ⟨T4, h4, X4, e4, W4, st4⟩ := putF X3 hx hZ2 hown2 (host := "") (Or.inl (hw _ (List.mem_of_getElem? (i := 21) rfl))) Via.refl e3 (F_value_b1.ext E2) (E_b1.ext E2) (Or.inr ⟨(hw _ (List.mem_of_getElem? (i := 17) rfl)), rfl, hnm⟩) (hw _ (List.mem_of_getElem? (i := 3) rfl)) (ty := (.array .byte)) (by decide) rfl rfl (g := (mkF m 14 #[.val (.ref b1), .val (.ref a1), .val (.int (0 : Int32)), .val (.int (0 : Int32)), .val .null, .unset] [(.ref t2), (.ref b1)])) rfl rfl (hb hby d2_14)
  refine go1 st4 ?_
  have Fw4 := (F_value_b1.ext E2).same W4
  have N4 := Fr.snoc X4 N0 g_b1
  show Go p.tables e below T4 (mkF m 17 #[.val (.ref b1), .val (.ref a1), .val (.int (0 : Int32)), .val (.int (0 : Int32)), .val .null, .unset] []) _
  refine go1 (fun _ => XS.aloadN X4.here hx rfl (hb hby d2_17) rfl rfl) ?_
  show Go p.tables e below T4 (mkF m 18 #[.val (.ref b1), .val (.ref a1), .val (.int (0 : Int32)), .val (.int (0 : Int32)), .val .null, .unset] [(.ref b1)]) _
  refine go1 (ldcAgain (s := s) (vm0 := T2.vm) X4 hx hZ2 hown2 (hw _ (List.mem_of_getElem? (i := 15) rfl)) Lt2 (g := (mkF m 18 #[.val (.ref b1), .val (.ref a1), .val (.int (0 : Int32)), .val (.int (0 : Int32)), .val .null, .unset] [(.ref b1)])) rfl (hb hby d2_18)) ?_
  show Go p.tables e below T4 (mkF m 20 #[.val (.ref b1), .val (.ref a1), .val (.int (0 : Int32)), .val (.int (0 : Int32)), .val .null, .unset] [(.ref b2), (.ref b1)]) _
  obtain ⟨T5, X5, e5, st5⟩ := getF X4 hx hZ2 hown2 (host := "") (Or.inl (hw _ (List.mem_of_getElem? (i := 22) rfl))) Via.refl e4 (Fc2.other W4 (Or.inr (slot_ne (Or.inr (hw _ (List.mem_of_getElem? (i := 18) rfl))) (Or.inr (hw _ (List.mem_of_getElem? (i := 17) rfl))) (by decide) (t := .byte) (t' := (.array .byte)) (by decide) (by decide)))) (g := (mkF m 20 #[.val (.ref b1), .val (.ref a1), .val (.int (0 : Int32)), .val (.int (0 : Int32)), .val .null, .unset] [(.ref b2), (.ref b1)])) rfl rfl (hb hby d2_20)
  refine go1 st5 ?_
  show Go p.tables e below T5 (mkF m 23 #[.val (.ref b1), .val (.ref a1), .val (.int (0 : Int32)), .val (.int (0 : Int32)), .val .null, .unset] [(.int (0 : Int32)), (.ref b1)]) _
  obtain ⟨T6, h6, X6, e6, W6, st6⟩ := putFN X5 hx hZ2 hown2 (hw _ (List.mem_of_getElem? (i := 22) rfl)) Via.refl e5 ((F_coder_b1.ext E2).other W4 (Or.inr (slot_ne (Or.inr (hw _ (List.mem_of_getElem? (i := 18) rfl))) (Or.inr (hw _ (List.mem_of_getElem? (i := 17) rfl))) (by decide) (t := .byte) (t' := (.array .byte)) (by decide) (by decide)))) ((E_b1.ext E2).wr W4) (Or.inr ⟨(hw _ (List.mem_of_getElem? (i := 18) rfl)), rfl, hnm⟩) (hw _ (List.mem_of_getElem? (i := 3) rfl)) (ty := .byte) (v' := (.int (0 : Int32))) (by decide) rfl (by decide) (g := (mkF m 23 #[.val (.ref b1), .val (.ref a1), .val (.int (0 : Int32)), .val (.int (0 : Int32)), .val .null, .unset] [(.int (0 : Int32)), (.ref b1)])) rfl rfl (hb hby d2_23)
  refine go1 st6 ?_
  have Fw6 := ((F_coder_b1.ext E2).other W4 (Or.inr (slot_ne (Or.inr (hw _ (List.mem_of_getElem? (i := 18) rfl))) (Or.inr (hw _ (List.mem_of_getElem? (i := 17) rfl))) (by decide) (t := .byte) (t' := (.array .byte)) (by decide) (by decide)))).same W6
  have N6 := Fr.snoc X6 N4 g_b1
  show Go p.tables e below T6 (mkF m 26 #[.val (.ref b1), .val (.ref a1), .val (.int (0 : Int32)), .val (.int (0 : Int32)), .val .null, .unset] []) _
  refine goRW (s := s) (vm₁ := T2.vm) X6 hS2 (by rw [e6]; exact (Nat.le_trans (Nat.le_trans hk2 (Keep.of_wr W4).1) (Keep.of_wr W6).1)) (BodyLoose.notSynchronized Bd) (v := none) (fun _ => rfl) (Qs5z Z b1 a1 h0 n0) (fun fs hr => X6.returnOut hx Bd.returns (hb hby d2_26) hr) (by decide) (by decide) ?_
  show Qs5z Z b1 a1 h0 n0 _ T6.heap _
  rw [e6]
  exact ⟨t2, kt2, rfl, N6, ((((Keep.refl h0 [b1]).ext E2).wr W4 (Or.inl (List.mem_of_getElem? (i := 0) rfl))).wr W6 (Or.inl (List.mem_of_getElem? (i := 0) rfl))), (((E_b1.ext E2).wr W4).wr W6), (Fw4.other W6 (Or.inr (slot_ne (Or.inr (hw _ (List.mem_of_getElem? (i := 17) rfl))) (Or.inr (hw _ (List.mem_of_getElem? (i := 18) rfl))) (by decide) (t := (.array .byte)) (t' := .byte) (by decide) (by decide)))), Fw6, ((Vt2.other W4 ne2).other W6 ne2)⟩
theorem pn_s1z : plainName "java/lang/String" = true := by first | (simp [plainName, overriddenIn]; done) | decide +kernel
theorem pds1z_0 : parseMethodDescriptor "([CIILjava/lang/Void;)V" = some ⟨[(.array .char), .int, .int, (.object "java/lang/Void")], none⟩ := by decide +kernel
theorem ef_s1z (m : MethodId) (b1 : Addr) (a1 : Addr) : entryFrame m #[(.ref b1), (.ref a1)] 2 = mkF m 0 #[.val (.ref b1), .val (.ref a1)] [] := by first | (simp [entryFrame, mkF, argsToLocals, Value.category]; done) | rfl
def Qs1z (Z : State) (b1 : Addr) (a1 : Addr) (ka : ClassId) (va : List Value) (h0 : Heap) (n0 : Nat) (v : Option Value) (h : Heap) (L : List Loc) : Prop := ∃ (t : Addr) (kt : ClassId), v = none ∧ Fr n0 L ∧ Keep h0 h [b1] ∧ Exa Z h b1 "java/lang/String" ∧ Fld Z h b1 "java/lang/String" "value" "[B" (.ref t) ∧ Fld Z h b1 "java/lang/String" "coder" "B" (.int (0 : Int32)) ∧ Arv Z h t kt .byte (0 : Int32) [] (.int 0)
set_option maxRecDepth 65536 in
set_option maxHeartbeats 40000000 in
theorem rms1z (l : Launch) (Z : State) (a0 : Array Value) (hw : ∀ d ∈ tables_1, d.before a0 Z = true) (ws : List Jvm.Cond) (b1 : Addr) (a1 : Addr) (ka : ClassId) (va : List Value) (h0 : Heap) (n0 : Nat) (Z0 : n0 ≤ h0.size) (F_value_b1 : Fld Z h0 b1 "java/lang/String" "value" "[B" .null) (F_coder_b1 : Fld Z h0 b1 "java/lang/String" "coder" "B" (.int (0 : Int32))) (E_b1 : Exa Z h0 b1 "java/lang/String") (g_b1 : n0 ≤ b1) (V_a1 : Arv Z h0 a1 ka .char (0 : Int32) va (.int 0)) :
    MetFree l (⟨"java/lang/String", "<init>", "([C)V"⟩ : MethodName) (head1 (Jvm.Cond.code (⟨"java/lang/String", "<init>", "([C)V"⟩ : MethodName) jdk_42_method_3_code 2 none :: ws) ({ frames := 2, cells := 2, slots := 4, locals := 29 } : Room)) (fun a U => a = #[(.ref b1), (.ref a1)] ∧ Z.Warmed39 U.vm ∧ U.heap = h0 ∧ CHv Z consts_1 U.vm h0) (fun _ _ _ _ _ => True) (fun _ U o U' => ∃ v L, o = .returned v ∧ Qs1z Z b1 a1 ka va h0 n0 v U'.heap L ∧ ReturnedEndW U o U' L ({ frames := 2, cells := 2, slots := 4, locals := 29 } : Room).cells ({ frames := 2, cells := 2, slots := 4, locals := 29 } : Room).slots) := by
  refine MetFree.of_bodySF (plainFor_of_name pn_s1z) hisR ?_
  intro p e s m args below meth c s₁ Bd hml0 hP hK
  obtain ⟨rfl, hZ, hh, hCH⟩ := hP
  have hx := Bd.exec
  have hby := Bd.bytes
  have hml : c.maxLocals = 2 := hml0
  have hown : s.vm.findClass "java/lang/String" = some m.cls := findClass_of_methodNamed Bd.named
  have hnm := (name_of_methodNamed Bd.named Bd.method).1
  have X0 : Stand p l e ({ frames := 2, cells := 2, slots := 4, locals := 29 } : Room) (s.setVm s.vm) m #[(.ref b1), (.ref a1)] below meth c s₁ [] 0 0 := Stand.of_body Bd
  have e0 : s₁.heap = h0 := by rw [← hh, Bd.state]; rfl
  have N0 := Fr.nil n0
  have hS0 : s.Since s.vm 0 := (State.WarmedH.refl s).since 0
  have wS : ∀ d ∈ Bundle.stringAtoms, d.before a0 Z = true := by
    intro d hd
    simp only [Bundle.stringAtoms, List.mem_cons, List.not_mem_nil, or_false] at hd
    rcases hd with rfl | rfl | rfl | rfl | rfl | rfl | rfl
    · exact (hw _ (List.mem_of_getElem? (i := 4) rfl))
    · exact (hw _ (List.mem_of_getElem? (i := 3) rfl))
    · exact (hw _ (List.mem_of_getElem? (i := 16) rfl))
    · exact (hw _ (List.mem_of_getElem? (i := 17) rfl))
    · exact (hw _ (List.mem_of_getElem? (i := 18) rfl))
    · exact (hw _ (List.mem_of_getElem? (i := 19) rfl))
    · exact (hw _ (List.mem_of_getElem? (i := 20) rfl))
  have hEL : EW Z a0 consts_1 := EW.cons (hw _ (List.mem_of_getElem? (i := 15) rfl)) (fun c hc => by simp at hc) EW.nil
  refine goB (ef_s1z m b1 a1) ?_
  show Go p.tables e below s₁ (mkF m 0 #[.val (.ref b1), .val (.ref a1)] []) _
  refine go1 (fun _ => XS.aloadN X0.here hx rfl (hb hby d1_0) rfl rfl) ?_
  show Go p.tables e below s₁ (mkF m 1 #[.val (.ref b1), .val (.ref a1)] [(.ref b1)]) _
  refine go1 (fun _ => XS.aloadN X0.here hx rfl (hb hby d1_1) rfl rfl) ?_
  show Go p.tables e below s₁ (mkF m 2 #[.val (.ref b1), .val (.ref a1)] [(.ref a1), (.ref b1)]) _
  refine go1 (fun _ => XS.iconst X0.here hx rfl (hb hby d1_2)) ?_
  show Go p.tables e below s₁ (mkF m 3 #[.val (.ref b1), .val (.ref a1)] [(.int (0 : Int32)), (.ref a1), (.ref b1)]) _
  refine go1 (fun _ => XS.aloadN X0.here hx rfl (hb hby d1_3) rfl rfl) ?_
  show Go p.tables e below s₁ (mkF m 4 #[.val (.ref b1), .val (.ref a1)] [(.ref a1), (.int (0 : Int32)), (.ref a1), (.ref b1)]) _
  have vo1 := V_a1
  obtain ⟨cl1, Ar1, -, S1, M1, -, -⟩ := vo1
  refine go1 (T' := s₁) (g' := (mkF m 5 #[.val (.ref b1), .val (.ref a1)] [(.int (0 : Int32)), (.int (0 : Int32)), (.ref a1), (.ref b1)])) (fun t k => ?_) ?_
  · refine X0.arraylength hx (by rw [e0]; exact Ar1.1) (State.isArrayOf_alike hZ.alike Ar1.2.1) (g := (mkF m 4 #[.val (.ref b1), .val (.ref a1)] [(.ref a1), (.int (0 : Int32)), (.ref a1), (.ref b1)])) rfl rfl (hb hby d1_4) _ ?_
    rw [len_of S1 M1]
    exact k
  show Go p.tables e below s₁ (mkF m 5 #[.val (.ref b1), .val (.ref a1)] [(.int (0 : Int32)), (.int (0 : Int32)), (.ref a1), (.ref b1)]) _
  refine go1 (fun _ => XS.aconstNull X0.here hx rfl (hb hby d1_5)) ?_
  show Go p.tables e below s₁ (mkF m 6 #[.val (.ref b1), .val (.ref a1)] [.null, (.int (0 : Int32)), (.int (0 : Int32)), (.ref a1), (.ref b1)]) _
  obtain ⟨_, _, ⟨T2, L2, k2, n2⟩, -, X2, hq2, hg2, ⟨Lc2, hQ2, l2, y2, z2⟩, st2⟩ := X0.specialBackS hx (y := (⟨"java/lang/String", "<init>", "([CIILjava/lang/Void;)V"⟩ : MethodName)) rfl hown (mvT hZ (hw _ (List.mem_of_getElem? (i := 8) rfl))) (mvT hZ (hw _ (List.mem_of_getElem? (i := 9) rfl))) (mvT hZ (hw _ (List.mem_of_getElem? (i := 11) rfl))) (by decide) (backOfSC (s := s) (vm0 := s.vm) (EL := consts_1) (W := 0) (rms5z l Z a0 hw [] b1 a1 h0 n0 Z0 F_value_b1 F_coder_b1 E_b1 g_b1) hZ (hw _ (List.mem_of_getElem? (i := 11) rfl)) (hw _ (List.mem_of_getElem? (i := 4) rfl)) (by decide) (by decide) hEL hCH) (g := (mkF m 6 #[.val (.ref b1), .val (.ref a1)] [.null, (.int (0 : Int32)), (.int (0 : Int32)), (.ref a1), (.ref b1)])) rfl (by rw [hml]; rfl) (Steps.refl _) (a := b1) (argsL := [(.ref a1), (.int (0 : Int32)), (.int (0 : Int32)), .null]) (rest := []) (lenOf pds1z_0 rfl) rfl (by show 2 * 0 + _ ≤ _; exact Nat.le_of_eq rfl) (hb hby d1_6) (fun _ _ => ⟨rfl, e0, (by decide : 0 + 2 ≤ _), (by decide : 0 + 4 ≤ _)⟩)
  dsimp only [Pt.U, Pt.locs, Pt.cells, Pt.slots] at X2 l2 y2 z2 st2 hQ2 hq2 hg2
  subst l2 y2 z2
  have hS2 : s.Since T2.vm T2.heap.size := foldS (s := s) (vm0 := s.vm) (T := s₁) hS0 (by rw [e0]; exact (Nat.zero_le _)) hq2 hg2
  have hZ2 : Z.Warmed39 T2.vm := State.Warmed39.trans (t := s.setVm s.vm) hZ hq2.1
  have hown2 : T2.vm.findClass "java/lang/String" = some m.cls := by
    rw [hq2.1.alike.findClass]; exact hown
  obtain ⟨t3, kt4, rfl, N2q, K2, G2_0, G2_1, G2_2, G2_3⟩ := hQ2
  have N2 := Fr.app N0 N2q
  refine goT st2 ?_
  show Go p.tables e below T2 (mkF m 9 #[.val (.ref b1), .val (.ref a1)] []) _
  refine goRW (s := s) (vm₁ := T2.vm) X2 hS2 (Nat.le_refl _) (BodyLoose.notSynchronized Bd) (v := none) (fun _ => rfl) (Qs1z Z b1 a1 ka va h0 n0) (fun fs hr => X2.returnOut hx Bd.returns (hb hby d1_9) hr) (by decide) (by decide) ?_
  show Qs1z Z b1 a1 ka va h0 n0 _ T2.heap _
  exact ⟨t3, kt4, rfl, N2, ((Keep.refl h0 [b1]).trans K2 (allS (Or.inl (List.mem_of_getElem? (i := 0) rfl)) all0)), G2_0, G2_1, G2_2, G2_3⟩
theorem d6_0 : decode jdk_42_method_152_code 0 = .ok (.getstatic 38, 3) := by decide +kernel
theorem d6_3 : decode jdk_42_method_152_code 3 = .ok (.ifCond .eq 10, 3) := by decide +kernel
theorem d6_6 : decode jdk_42_method_152_code 6 = .ok (.aload_n 0, 1) := by decide +kernel
theorem d6_7 : decode jdk_42_method_152_code 7 = .ok (.getfield 15, 3) := by decide +kernel
theorem d6_10 : decode jdk_42_method_152_code 10 = .ok (.goto 4, 3) := by decide +kernel
theorem d6_14 : decode jdk_42_method_152_code 14 = .ok (.ireturn, 1) := by decide +kernel
theorem pn_6 : plainName "java/lang/String" = true := by first | (simp [plainName, overriddenIn]; done) | decide +kernel
theorem ef_6 (m : MethodId) (b1 : Addr) : entryFrame m #[(.ref b1)] 1 = mkF m 0 #[.val (.ref b1)] [] := by first | (simp [entryFrame, mkF, argsToLocals, Value.category]; done) | rfl
def Q6 (Z : State) (b1 : Addr) (a_COMPACT_STRINGS : Int32) (h0 : Heap) (n0 : Nat) (v : Option Value) (h : Heap) (L : List Loc) : Prop := v = some (.int (nar .byte (0 : Int32))) ∧ Fr n0 L ∧ h = h0
set_option maxRecDepth 65536 in
set_option maxHeartbeats 40000000 in
theorem rm6 (l : Launch) (Z : State) (a0 : Array Value) (hw : ∀ d ∈ tables_1, d.before a0 Z = true) (ws : List Jvm.Cond) (b1 : Addr) (a_COMPACT_STRINGS : Int32) (h0 : Heap) (n0 : Nat) (Z0 : n0 ≤ h0.size) (O0 : Old Z n0 h0) (S_COMPACT_STRINGS : Sta Z Z.heap "java/lang/String" "COMPACT_STRINGS" "Z" (.int a_COMPACT_STRINGS)) (P_a_COMPACT_STRINGS : ¬ (a_COMPACT_STRINGS = (0 : Int32))) (F_coder_b1 : Fld Z h0 b1 "java/lang/String" "coder" "B" (.int (0 : Int32))) :
    MetFree l (⟨"java/lang/String", "coder", "()B"⟩ : MethodName) (head1 (Jvm.Cond.code (⟨"java/lang/String", "coder", "()B"⟩ : MethodName) jdk_42_method_152_code 1 (some .byte) :: ws) ({ frames := 0, cells := 0, slots := 0, locals := 0 } : Room)) (fun a U => a = #[(.ref b1)] ∧ Z.Warmed39 U.vm ∧ U.heap = h0) (fun _ _ _ _ _ => True) (fun _ U o U' => ∃ v L, o = .returned v ∧ Q6 Z b1 a_COMPACT_STRINGS h0 n0 v U'.heap L ∧ FrameEnd U o U' L ({ frames := 0, cells := 0, slots := 0, locals := 0 } : Room).cells ({ frames := 0, cells := 0, slots := 0, locals := 0 } : Room).slots) := by
  refine MetFree.of_bodySF (plainFor_of_name pn_6) hisR ?_
  intro p e s m args below meth c s₁ Bd hml0 hP hK
  obtain ⟨rfl, hZ, hh⟩ := hP
  have hx := Bd.exec
  have hby := Bd.bytes
  have hml : c.maxLocals = 1 := hml0
  have hown : s.vm.findClass "java/lang/String" = some m.cls := findClass_of_methodNamed Bd.named
  have hnm := (name_of_methodNamed Bd.named Bd.method).1
  have X0 : Stand p l e ({ frames := 0, cells := 0, slots := 0, locals := 0 } : Room) s m #[(.ref b1)] below meth c s₁ [] 0 0 := Stand.of_body Bd
  have e0 : s₁.heap = h0 := by rw [← hh, Bd.state]; rfl
  have N0 := Fr.nil n0
  refine goB (ef_6 m b1) ?_
  show Go p.tables e below s₁ (mkF m 0 #[.val (.ref b1)] []) _
  obtain ⟨T1, X1, e1, st1⟩ := getS2 X0 hx hZ hown (host := "") (Or.inl (hw _ (List.mem_of_getElem? (i := 37) rfl))) Via.refl e0 (S_COMPACT_STRINGS.ext O0.2) (g := (mkF m 0 #[.val (.ref b1)] [])) rfl (hb hby d6_0)
  refine go1 st1 ?_
  show Go p.tables e below T1 (mkF m 3 #[.val (.ref b1)] [(.int a_COMPACT_STRINGS)]) _
  refine go1 (fun _ => XS.ifNo X1.here hx rfl (hb hby d6_3) rfl ((if0 _ _).trans (feq P_a_COMPACT_STRINGS).1)) ?_
  show Go p.tables e below T1 (mkF m 6 #[.val (.ref b1)] []) _
  refine go1 (fun _ => XS.aloadN X1.here hx rfl (hb hby d6_6) rfl rfl) ?_
  show Go p.tables e below T1 (mkF m 7 #[.val (.ref b1)] [(.ref b1)]) _
  obtain ⟨T2, X2, e2, st2⟩ := getF X1 hx hZ hown (host := "") (Or.inl (hw _ (List.mem_of_getElem? (i := 22) rfl))) Via.refl e1 F_coder_b1 (g := (mkF m 7 #[.val (.ref b1)] [(.ref b1)])) rfl rfl (hb hby d6_7)
  refine go1 st2 ?_
  show Go p.tables e below T2 (mkF m 10 #[.val (.ref b1)] [(.int (0 : Int32))]) _
  refine go1 (fun _ => XS.goto X2.here hx rfl (pc0 := 10) (pc' := 14) rfl (hb hby d6_10) (by decide) (by decide)) ?_
  show Go p.tables e below T2 (mkF m 14 #[.val (.ref b1)] [(.int (0 : Int32))]) _
  refine goR X2 (BodyLoose.notSynchronized Bd) (v := (some (.int (0 : Int32)))) (fun h => by rw [Bd.returns] at h; cases h) (Q6 Z b1 a_COMPACT_STRINGS h0 n0) (fun fs hr => retN X2 hx (t := .byte) Bd.returns (by simp) (hb hby d6_14) hr) (by decide) (by decide) ?_
  show Q6 Z b1 a_COMPACT_STRINGS h0 n0 _ T2.heap _
  rw [e2]
  exact ⟨rfl, N0, rfl⟩
theorem d5_0 : decode jdk_42_method_54_code 0 = .ok (.aload_n 0, 1) := by decide +kernel
theorem d5_1 : decode jdk_42_method_54_code 1 = .ok (.getfield 9, 3) := by decide +kernel
theorem d5_4 : decode jdk_42_method_54_code 4 = .ok (.arraylength, 1) := by decide +kernel
theorem d5_5 : decode jdk_42_method_54_code 5 = .ok (.aload_n 0, 1) := by decide +kernel
theorem d5_6 : decode jdk_42_method_54_code 6 = .ok (.invokevirtual 335, 3) := by decide +kernel
theorem d5_9 : decode jdk_42_method_54_code 9 = .ok (.ishr, 1) := by decide +kernel
theorem d5_10 : decode jdk_42_method_54_code 10 = .ok (.ireturn, 1) := by decide +kernel
theorem pn_5 : plainName "java/lang/String" = true := by first | (simp [plainName, overriddenIn]; done) | decide +kernel
theorem pd5_0 : parseMethodDescriptor "()B" = some ⟨[], some .byte⟩ := by decide +kernel
theorem ef_5 (m : MethodId) (b1 : Addr) : entryFrame m #[(.ref b1)] 1 = mkF m 0 #[.val (.ref b1)] [] := by first | (simp [entryFrame, mkF, argsToLocals, Value.category]; done) | rfl
def Q5 (Z : State) (b1 : Addr) (t1 : Addr) (kt : ClassId) (z : Int32) (vt : List Value) (a_COMPACT_STRINGS : Int32) (h0 : Heap) (n0 : Nat) (v : Option Value) (h : Heap) (L : List Loc) : Prop := v = some (.int z) ∧ Fr n0 L ∧ h = h0
set_option maxRecDepth 65536 in
set_option maxHeartbeats 40000000 in
theorem rm5 (l : Launch) (Z : State) (a0 : Array Value) (hw : ∀ d ∈ tables_1, d.before a0 Z = true) (ws : List Jvm.Cond) (b1 : Addr) (t1 : Addr) (kt : ClassId) (z : Int32) (vt : List Value) (a_COMPACT_STRINGS : Int32) (h0 : Heap) (n0 : Nat) (Z0 : n0 ≤ h0.size) (O0 : Old Z n0 h0) (S_COMPACT_STRINGS : Sta Z Z.heap "java/lang/String" "COMPACT_STRINGS" "Z" (.int a_COMPACT_STRINGS)) (P_a_COMPACT_STRINGS : ¬ (a_COMPACT_STRINGS = (0 : Int32))) (F_value_b1 : Fld Z h0 b1 "java/lang/String" "value" "[B" (.ref t1)) (F_coder_b1 : Fld Z h0 b1 "java/lang/String" "coder" "B" (.int (0 : Int32))) (V_t1 : Arv Z h0 t1 kt .byte z vt (.int 0)) (E_b1 : Exa Z h0 b1 "java/lang/String") :
    MetFree l (⟨"java/lang/String", "length", "()I"⟩ : MethodName) (head1 (Jvm.Cond.code (⟨"java/lang/String", "length", "()I"⟩ : MethodName) jdk_42_method_54_code 1 (some .int) :: ws) ({ frames := 1, cells := 0, slots := 0, locals := 13 } : Room)) (fun a U => a = #[(.ref b1)] ∧ Z.Warmed39 U.vm ∧ U.heap = h0) (fun _ _ _ _ _ => True) (fun _ U o U' => ∃ v L, o = .returned v ∧ Q5 Z b1 t1 kt z vt a_COMPACT_STRINGS h0 n0 v U'.heap L ∧ FrameEnd U o U' L ({ frames := 1, cells := 0, slots := 0, locals := 13 } : Room).cells ({ frames := 1, cells := 0, slots := 0, locals := 13 } : Room).slots) := by
  refine MetFree.of_bodySF (plainFor_of_name pn_5) hisR ?_
  intro p e s m args below meth c s₁ Bd hml0 hP hK
  obtain ⟨rfl, hZ, hh⟩ := hP
  have hx := Bd.exec
  have hby := Bd.bytes
  have hml : c.maxLocals = 1 := hml0
  have hown : s.vm.findClass "java/lang/String" = some m.cls := findClass_of_methodNamed Bd.named
  have hnm := (name_of_methodNamed Bd.named Bd.method).1
  have X0 : Stand p l e ({ frames := 1, cells := 0, slots := 0, locals := 13 } : Room) s m #[(.ref b1)] below meth c s₁ [] 0 0 := Stand.of_body Bd
  have e0 : s₁.heap = h0 := by rw [← hh, Bd.state]; rfl
  have N0 := Fr.nil n0
  refine goB (ef_5 m b1) ?_
  show Go p.tables e below s₁ (mkF m 0 #[.val (.ref b1)] []) _
  refine go1 (fun _ => XS.aloadN X0.here hx rfl (hb hby d5_0) rfl rfl) ?_
  show Go p.tables e below s₁ (mkF m 1 #[.val (.ref b1)] [(.ref b1)]) _
  obtain ⟨T1, X1, e1, st1⟩ := getF X0 hx hZ hown (host := "") (Or.inl (hw _ (List.mem_of_getElem? (i := 21) rfl))) Via.refl e0 F_value_b1 (g := (mkF m 1 #[.val (.ref b1)] [(.ref b1)])) rfl rfl (hb hby d5_1)
  refine go1 st1 ?_
  show Go p.tables e below T1 (mkF m 4 #[.val (.ref b1)] [(.ref t1)]) _
  have vo2 := V_t1
  obtain ⟨cl2, Ar2, -, S2, M2, -, -⟩ := vo2
  refine go1 (T' := T1) (g' := (mkF m 5 #[.val (.ref b1)] [(.int z)])) (fun t k => ?_) ?_
  · refine X1.arraylength hx (by rw [e1]; exact Ar2.1) (State.isArrayOf_alike hZ.alike Ar2.2.1) (g := (mkF m 4 #[.val (.ref b1)] [(.ref t1)])) rfl rfl (hb hby d5_4) _ ?_
    rw [len_of S2 M2]
    exact k
  show Go p.tables e below T1 (mkF m 5 #[.val (.ref b1)] [(.int z)]) _
  refine go1 (fun _ => XS.aloadN X1.here hx rfl (hb hby d5_5) rfl rfl) ?_
  show Go p.tables e below T1 (mkF m 6 #[.val (.ref b1)] [(.ref b1), (.int z)]) _
  obtain ⟨cq3, kq3, q3a, q3b, q3c⟩ := isOf hZ e1 E_b1
  obtain ⟨_, _, ⟨T3, L3, k3, n3⟩, -, X3, ⟨Lc3, hQ3, l3, y3, z3⟩, st3⟩ := X1.virtualBack hx (y := (⟨"java/lang/String", "coder", "()B"⟩ : MethodName)) (z := (⟨"java/lang/String", "coder", "()B"⟩ : MethodName)) hown (mvT hZ (hw _ (List.mem_of_getElem? (i := 32) rfl))) (mvT hZ (hw _ (List.mem_of_getElem? (i := 33) rfl))) (notFace_of_selects (args := #[]) (mvT hZ (hw _ (List.mem_of_getElem? (i := 35) rfl)))) (mvT hZ (hw _ (List.mem_of_getElem? (i := 35) rfl))) (mvT hZ (hw _ (List.mem_of_getElem? (i := 34) rfl))) (by decide) (backOf (W := 1) (rm6 l Z a0 hw [] b1 a_COMPACT_STRINGS h0 n0 Z0 O0 S_COMPACT_STRINGS P_a_COMPACT_STRINGS F_coder_b1) hZ (hw _ (List.mem_of_getElem? (i := 36) rfl)) (hw _ (List.mem_of_getElem? (i := 4) rfl)) (by decide) (by decide)) q3a q3c (g := (mkF m 6 #[.val (.ref b1)] [(.ref b1), (.int z)])) rfl (by rw [hml]; rfl) (Steps.refl _) (argsL := []) (rest := [(.int z)]) (lenOf pd5_0 rfl) rfl (by show 2 * 0 + _ ≤ _; exact Nat.le_of_eq rfl) (hb hby d5_6) (fun _ _ => ⟨rfl, e1, (by decide : 0 + 0 ≤ _), (by decide : 0 + 0 ≤ _)⟩)
  dsimp only [Pt.U, Pt.locs, Pt.cells, Pt.slots] at X3 l3 y3 z3 st3 hQ3
  subst l3 y3 z3
  obtain ⟨rfl, N3q, e3⟩ := hQ3
  have N3 := Fr.app N0 N3q
  refine goT st3 ?_
  show Go p.tables e below T3 (mkF m 9 #[.val (.ref b1)] [(.int (nar .byte (0 : Int32))), (.int z)]) _
  refine go1 (fun _ => XS.ishr X3.here hx rfl (hb hby d5_9) rfl) ?_
  show Go p.tables e below T3 (mkF m 10 #[.val (.ref b1)] [(.int (z >>> ((nar .byte (0 : Int32)) &&& 31)))]) _
  refine goR X3 (BodyLoose.notSynchronized Bd) (v := (some (.int (z >>> ((nar .byte (0 : Int32)) &&& 31))))) (fun h => by rw [Bd.returns] at h; cases h) (Q5 Z b1 t1 kt z vt a_COMPACT_STRINGS h0 n0) (fun fs hr => retI X3 hx Bd.returns (hb hby d5_10) hr) (by decide) (by decide) ?_
  show Q5 Z b1 t1 kt z vt a_COMPACT_STRINGS h0 n0 _ T3.heap _
  rw [e3]
  exact ⟨(congrArg (fun q => some (Value.int q)) (own_shr0 z)), N3, rfl⟩
theorem d4_0 : decode prog_32_method_2_code 0 = .ok (.aload_n 0, 1) := by decide +kernel
theorem d4_1 : decode prog_32_method_2_code 1 = .ok (.invokevirtual 9, 3) := by decide +kernel
theorem d4_4 : decode prog_32_method_2_code 4 = .ok (.sipush 8192, 3) := by decide +kernel
theorem d4_7 : decode prog_32_method_2_code 7 = .ok (.if_icmp .le 7, 3) := by decide +kernel
theorem d4_10 : decode prog_32_method_2_code 10 = .ok (.iconst 1, 1) := by decide +kernel
theorem d4_11 : decode prog_32_method_2_code 11 = .ok (.goto 4, 3) := by decide +kernel
theorem d4_14 : decode prog_32_method_2_code 14 = .ok (.iconst 0, 1) := by decide +kernel
theorem d4_15 : decode prog_32_method_2_code 15 = .ok (.ireturn, 1) := by decide +kernel
theorem pn_4 : plainName "com/example/under50k/under50k/SitemapReader" = true := by first | (simp [plainName, overriddenIn]; done) | decide +kernel
theorem pd4_0 : parseMethodDescriptor "()I" = some ⟨[], some .int⟩ := by decide +kernel
theorem ef_4 (m : MethodId) (b1 : Addr) : entryFrame m #[(.ref b1)] 1 = mkF m 0 #[.val (.ref b1)] [] := by first | (simp [entryFrame, mkF, argsToLocals, Value.category]; done) | rfl
def own_4 (z : Int32) : Int32 :=
  if (8192 : Int32) < z then
    (1 : Int32)
  else
    (0 : Int32)
def Q4 (Z : State) (b1 : Addr) (t1 : Addr) (kt : ClassId) (z : Int32) (vt : List Value) (a_COMPACT_STRINGS : Int32) (h0 : Heap) (n0 : Nat) (v : Option Value) (h : Heap) (L : List Loc) : Prop := v = some (.int (own_4 z)) ∧ Fr n0 L ∧ h = h0
set_option maxRecDepth 65536 in
set_option maxHeartbeats 40000000 in
theorem rm4 (l : Launch) (Z : State) (a0 : Array Value) (hw : ∀ d ∈ tables_1, d.before a0 Z = true) (ws : List Jvm.Cond) (b1 : Addr) (t1 : Addr) (kt : ClassId) (z : Int32) (vt : List Value) (a_COMPACT_STRINGS : Int32) (h0 : Heap) (n0 : Nat) (Z0 : n0 ≤ h0.size) (O0 : Old Z n0 h0) (S_COMPACT_STRINGS : Sta Z Z.heap "java/lang/String" "COMPACT_STRINGS" "Z" (.int a_COMPACT_STRINGS)) (P_a_COMPACT_STRINGS : ¬ (a_COMPACT_STRINGS = (0 : Int32))) (F_value_b1 : Fld Z h0 b1 "java/lang/String" "value" "[B" (.ref t1)) (F_coder_b1 : Fld Z h0 b1 "java/lang/String" "coder" "B" (.int (0 : Int32))) (V_t1 : Arv Z h0 t1 kt .byte z vt (.int 0)) (E_b1 : Exa Z h0 b1 "java/lang/String") :
    MetFree l (⟨"com/example/under50k/under50k/SitemapReader", "isCut", "(Ljava/lang/String;)Z"⟩ : MethodName) (head1 (Jvm.Cond.code (⟨"com/example/under50k/under50k/SitemapReader", "isCut", "(Ljava/lang/String;)Z"⟩ : MethodName) prog_32_method_2_code 1 (some .boolean) :: ws) ({ frames := 2, cells := 0, slots := 0, locals := 25 } : Room)) (fun a U => a = #[(.ref b1)] ∧ Z.Warmed39 U.vm ∧ U.heap = h0) (fun _ _ _ _ _ => True) (fun _ U o U' => ∃ v L, o = .returned v ∧ Q4 Z b1 t1 kt z vt a_COMPACT_STRINGS h0 n0 v U'.heap L ∧ FrameEnd U o U' L ({ frames := 2, cells := 0, slots := 0, locals := 25 } : Room).cells ({ frames := 2, cells := 0, slots := 0, locals := 25 } : Room).slots) := by
  refine MetFree.of_bodySF (plainFor_of_name pn_4) hisR ?_
  intro p e s m args below meth c s₁ Bd hml0 hP hK
  obtain ⟨rfl, hZ, hh⟩ := hP
  have hx := Bd.exec
  have hby := Bd.bytes
  have hml : c.maxLocals = 1 := hml0
  have hown : s.vm.findClass "com/example/under50k/under50k/SitemapReader" = some m.cls := findClass_of_methodNamed Bd.named
  have hnm := (name_of_methodNamed Bd.named Bd.method).1
  have X0 : Stand p l e ({ frames := 2, cells := 0, slots := 0, locals := 25 } : Room) s m #[(.ref b1)] below meth c s₁ [] 0 0 := Stand.of_body Bd
  have e0 : s₁.heap = h0 := by rw [← hh, Bd.state]; rfl
  have N0 := Fr.nil n0
  refine goB (ef_4 m b1) ?_
  show Go p.tables e below s₁ (mkF m 0 #[.val (.ref b1)] []) _
  refine go1 (fun _ => XS.aloadN X0.here hx rfl (hb hby d4_0) rfl rfl) ?_
  show Go p.tables e below s₁ (mkF m 1 #[.val (.ref b1)] [(.ref b1)]) _
  obtain ⟨cq1, kq1, q1a, q1b, q1c⟩ := isOf hZ e0 E_b1
  obtain ⟨_, _, ⟨T1, L1, k1, n1⟩, -, X1, ⟨Lc1, hQ1, l1, y1, z1⟩, st1⟩ := X0.virtualBack hx (y := (⟨"java/lang/String", "length", "()I"⟩ : MethodName)) (z := (⟨"java/lang/String", "length", "()I"⟩ : MethodName)) hown (mvT hZ (hw _ (List.mem_of_getElem? (i := 27) rfl))) (mvT hZ (hw _ (List.mem_of_getElem? (i := 28) rfl))) (notFace_of_selects (args := #[]) (mvT hZ (hw _ (List.mem_of_getElem? (i := 30) rfl)))) (mvT hZ (hw _ (List.mem_of_getElem? (i := 30) rfl))) (mvT hZ (hw _ (List.mem_of_getElem? (i := 29) rfl))) (by decide) (backOf (W := 0) (rm5 l Z a0 hw [] b1 t1 kt z vt a_COMPACT_STRINGS h0 n0 Z0 O0 S_COMPACT_STRINGS P_a_COMPACT_STRINGS F_value_b1 F_coder_b1 V_t1 E_b1) hZ (hw _ (List.mem_of_getElem? (i := 31) rfl)) (hw _ (List.mem_of_getElem? (i := 4) rfl)) (by decide) (by decide)) q1a q1c (g := (mkF m 1 #[.val (.ref b1)] [(.ref b1)])) rfl (by rw [hml]; rfl) (Steps.refl _) (argsL := []) (rest := []) (lenOf pd4_0 rfl) rfl (by show 2 * 0 + _ ≤ _; exact Nat.le_of_eq rfl) (hb hby d4_1) (fun _ _ => ⟨rfl, e0, (by decide : 0 + 0 ≤ _), (by decide : 0 + 0 ≤ _)⟩)
  dsimp only [Pt.U, Pt.locs, Pt.cells, Pt.slots] at X1 l1 y1 z1 st1 hQ1
  subst l1 y1 z1
  obtain ⟨rfl, N1q, e1⟩ := hQ1
  have N1 := Fr.app N0 N1q
  refine goT st1 ?_
  show Go p.tables e below T1 (mkF m 4 #[.val (.ref b1)] [(.int z)]) _
  refine go1 (fun _ => XS.sipush X1.here hx rfl (hb hby d4_4)) ?_
  show Go p.tables e below T1 (mkF m 7 #[.val (.ref b1)] [(.int (8192 : Int32)), (.int z)]) _
  by_cases hc2 : (8192 : Int32) < z
  · skip
    refine go1 (fun _ => XS.icmpNo X1.here hx rfl (hb hby d4_7) rfl (tlt hc2).2.2.2) ?_
    show Go p.tables e below T1 (mkF m 10 #[.val (.ref b1)] []) _
    refine go1 (fun _ => XS.iconst X1.here hx rfl (hb hby d4_10)) ?_
    show Go p.tables e below T1 (mkF m 11 #[.val (.ref b1)] [(.int (1 : Int32))]) _
    refine go1 (fun _ => XS.goto X1.here hx rfl (pc0 := 11) (pc' := 15) rfl (hb hby d4_11) (by decide) (by decide)) ?_
    show Go p.tables e below T1 (mkF m 15 #[.val (.ref b1)] [(.int (1 : Int32))]) _
    refine goR X1 (BodyLoose.notSynchronized Bd) (v := (some (.int (1 : Int32)))) (fun h => by rw [Bd.returns] at h; cases h) (Q4 Z b1 t1 kt z vt a_COMPACT_STRINGS h0 n0) (fun fs hr => retN X1 hx (t := .boolean) Bd.returns (by simp) (hb hby d4_15) hr) (by decide) (by decide) ?_
    show Q4 Z b1 t1 kt z vt a_COMPACT_STRINGS h0 n0 _ T1.heap _
    rw [e1]
    exact ⟨(by rw [own_4, if_pos hc2]), N1, rfl⟩
  · skip
    refine go1 (fun _ => XS.icmpYes X1.here hx rfl (pc0 := 7) (pc' := 14) rfl (hb hby d4_7) rfl (flt hc2).2.2.2 (by decide) (by decide)) ?_
    show Go p.tables e below T1 (mkF m 14 #[.val (.ref b1)] []) _
    refine go1 (fun _ => XS.iconst X1.here hx rfl (hb hby d4_14)) ?_
    show Go p.tables e below T1 (mkF m 15 #[.val (.ref b1)] [(.int (0 : Int32))]) _
    refine goR X1 (BodyLoose.notSynchronized Bd) (v := (some (.int (0 : Int32)))) (fun h => by rw [Bd.returns] at h; cases h) (Q4 Z b1 t1 kt z vt a_COMPACT_STRINGS h0 n0) (fun fs hr => retN X1 hx (t := .boolean) Bd.returns (by simp) (hb hby d4_15) hr) (by decide) (by decide) ?_
    show Q4 Z b1 t1 kt z vt a_COMPACT_STRINGS h0 n0 _ T1.heap _
    rw [e1]
    exact ⟨(by rw [own_4, if_neg hc2]), N1, rfl⟩
theorem pn_0 : plainName "com/example/under50k/under50k/SitemapReaderIsCutPinLaw" = true := by first | (simp [plainName, overriddenIn]; done) | decide +kernel
theorem pd0_0 : parseMethodDescriptor "([C)V" = some ⟨[(.array .char)], none⟩ := by decide +kernel
theorem pd0_1 : parseMethodDescriptor "(Ljava/lang/String;)Z" = some ⟨[(.object "java/lang/String")], some .boolean⟩ := by decide +kernel
theorem ef_0 (m : MethodId) (p1 : Int32) (p2 : Int32) (p3 : Int32) (p4 : Int32) : entryFrame m #[(.int p1), (.int p2), (.int p3), (.int p4)] maxLocals = mkF m 0 #[.val (.int p1), .val (.int p2), .val (.int p3), .val (.int p4), .unset, .unset, .unset, .unset, .unset] [] := by first | (simp [entryFrame, mkF, argsToLocals, Value.category, maxLocals]; done) | rfl
def Q0 (Z : State) (p1 : Int32) (p2 : Int32) (p3 : Int32) (p4 : Int32) (a_COMPACT_STRINGS : Int32) (h0 : Heap) (n0 : Nat) (v : Option Value) (h : Heap) (L : List Loc) : Prop := v = some (.int (1 : Int32)) ∧ Fr n0 L
set_option maxRecDepth 65536 in
set_option maxHeartbeats 40000000 in
theorem rm0 (l : Launch) (Z : State) (a0 : Array Value) (hw : ∀ d ∈ tables_1, d.before a0 Z = true) (ws : List Jvm.Cond) (p1 : Int32) (p2 : Int32) (p3 : Int32) (p4 : Int32) (a_COMPACT_STRINGS : Int32) (h0 : Heap) (n0 : Nat) (Z0 : n0 ≤ h0.size) (O0 : Old Z n0 h0) (S_COMPACT_STRINGS : Sta Z Z.heap "java/lang/String" "COMPACT_STRINGS" "Z" (.int a_COMPACT_STRINGS)) (P_a_COMPACT_STRINGS : ¬ (a_COMPACT_STRINGS = (0 : Int32))) :
    MetFree l x (head1 (Jvm.Cond.code x code maxLocals ret :: ws) room_1) (fun a U => a = #[(.int p1), (.int p2), (.int p3), (.int p4)] ∧ Z.Warmed39 U.vm ∧ U.heap = h0 ∧ CHv Z consts_1 U.vm h0) (fun _ _ _ _ _ => True) (fun _ U o U' => ∃ v L, o = .returned v ∧ Q0 Z p1 p2 p3 p4 a_COMPACT_STRINGS h0 n0 v U'.heap L ∧ ReturnedEndW U o U' L 16 66688) := by
  refine MetFree.of_bodySF (plainFor_of_name pn_0) hisR ?_
  intro p e s m args below meth c s₁ Bd hml0 hP hK
  obtain ⟨rfl, hZ, hh, hCH⟩ := hP
  have hx := Bd.exec
  have hby := Bd.bytes
  have hml : c.maxLocals = 9 := hml0
  have hown : s.vm.findClass "com/example/under50k/under50k/SitemapReaderIsCutPinLaw" = some m.cls := findClass_of_methodNamed Bd.named
  have hnm := (name_of_methodNamed Bd.named Bd.method).1
  have X0 : Stand p l e room_1 (s.setVm s.vm) m #[(.int p1), (.int p2), (.int p3), (.int p4)] below meth c s₁ [] 0 0 := Stand.of_body Bd
  have e0 : s₁.heap = h0 := by rw [← hh, Bd.state]; rfl
  have N0 := Fr.nil n0
  have hS0 : s.Since s.vm 0 := (State.WarmedH.refl s).since 0
  have wS : ∀ d ∈ Bundle.stringAtoms, d.before a0 Z = true := by
    intro d hd
    simp only [Bundle.stringAtoms, List.mem_cons, List.not_mem_nil, or_false] at hd
    rcases hd with rfl | rfl | rfl | rfl | rfl | rfl | rfl
    · exact (hw _ (List.mem_of_getElem? (i := 4) rfl))
    · exact (hw _ (List.mem_of_getElem? (i := 3) rfl))
    · exact (hw _ (List.mem_of_getElem? (i := 16) rfl))
    · exact (hw _ (List.mem_of_getElem? (i := 17) rfl))
    · exact (hw _ (List.mem_of_getElem? (i := 18) rfl))
    · exact (hw _ (List.mem_of_getElem? (i := 19) rfl))
    · exact (hw _ (List.mem_of_getElem? (i := 20) rfl))
  have hEL : EW Z a0 consts_1 := EW.cons (hw _ (List.mem_of_getElem? (i := 15) rfl)) (fun c hc => by simp at hc) EW.nil
  refine goB (ef_0 m p1 p2 p3 p4) ?_
  show Go p.tables e below s₁ (mkF m 0 #[.val (.int p1), .val (.int p2), .val (.int p3), .val (.int p4), .unset, .unset, .unset, .unset, .unset] []) _
  refine go1 (fun _ => XS.iloadN X0.here hx rfl (hb hby at_0) rfl) ?_
  show Go p.tables e below s₁ (mkF m 1 #[.val (.int p1), .val (.int p2), .val (.int p3), .val (.int p4), .unset, .unset, .unset, .unset, .unset] [(.int p1)]) _
  refine go1 (X0.ldcInt hx hown (mvT hZ (hw _ (List.mem_of_getElem? (i := 0) rfl))) (g := (mkF m 1 #[.val (.int p1), .val (.int p2), .val (.int p3), .val (.int p4), .unset, .unset, .unset, .unset, .unset] [(.int p1)])) rfl (hb hby at_1)) ?_
  show Go p.tables e below s₁ (mkF m 3 #[.val (.int p1), .val (.int p2), .val (.int p3), .val (.int p4), .unset, .unset, .unset, .unset, .unset] [(.int (2147483647 : Int32)), (.int p1)]) _
  refine go1 (fun _ => XS.iand X0.here hx rfl (hb hby at_3) rfl) ?_
  show Go p.tables e below s₁ (mkF m 4 #[.val (.int p1), .val (.int p2), .val (.int p3), .val (.int p4), .unset, .unset, .unset, .unset, .unset] [(.int (p1 &&& (2147483647 : Int32)))]) _
  refine go1 (fun _ => XS.bipush X0.here hx rfl (hb hby at_4)) ?_
  show Go p.tables e below s₁ (mkF m 6 #[.val (.int p1), .val (.int p2), .val (.int p3), .val (.int p4), .unset, .unset, .unset, .unset, .unset] [(.int (8 : Int32)), (.int (p1 &&& (2147483647 : Int32)))]) _
  refine go1 (fun _ => XS.irem X0.here hx rfl (hb hby at_6) rfl (by decide)) ?_
  rw [irem_eq_mod (p1 &&& (2147483647 : Int32)) (8 : Int32)]
  show Go p.tables e below s₁ (mkF m 7 #[.val (.int p1), .val (.int p2), .val (.int p3), .val (.int p4), .unset, .unset, .unset, .unset, .unset] [(.int ((p1 &&& (2147483647 : Int32)) % (8 : Int32)))]) _
  refine go1 (fun _ => XS.istore X0.here hx rfl (hb hby at_7) rfl (l' := #[.val (.int p1), .val (.int p2), .val (.int p3), .val (.int p4), .val (.int ((p1 &&& (2147483647 : Int32)) % (8 : Int32))), .unset, .unset, .unset, .unset]) rfl) ?_
  show Go p.tables e below s₁ (mkF m 9 #[.val (.int p1), .val (.int p2), .val (.int p3), .val (.int p4), .val (.int ((p1 &&& (2147483647 : Int32)) % (8 : Int32))), .unset, .unset, .unset, .unset] []) _
  refine go1 (fun _ => XS.iload X0.here hx rfl (hb hby at_9) rfl) ?_
  show Go p.tables e below s₁ (mkF m 11 #[.val (.int p1), .val (.int p2), .val (.int p3), .val (.int p4), .val (.int ((p1 &&& (2147483647 : Int32)) % (8 : Int32))), .unset, .unset, .unset, .unset] [(.int ((p1 &&& (2147483647 : Int32)) % (8 : Int32)))]) _
  by_cases hc1 : ((p1 &&& (2147483647 : Int32)) % (8 : Int32)) = (0 : Int32)
  · skip
    refine go1 (fun _ => XS.ifNo X0.here hx rfl (hb hby at_11) rfl ((if0 _ _).trans (teq hc1).2)) ?_
    show Go p.tables e below s₁ (mkF m 14 #[.val (.int p1), .val (.int p2), .val (.int p3), .val (.int p4), .val (.int ((p1 &&& (2147483647 : Int32)) % (8 : Int32))), .unset, .unset, .unset, .unset] []) _
    refine go1 (fun _ => XS.iconst X0.here hx rfl (hb hby at_14)) ?_
    show Go p.tables e below s₁ (mkF m 15 #[.val (.int p1), .val (.int p2), .val (.int p3), .val (.int p4), .val (.int ((p1 &&& (2147483647 : Int32)) % (8 : Int32))), .unset, .unset, .unset, .unset] [(.int (0 : Int32))]) _
    obtain ⟨T2, h2, k2, X2, e2, E2, A2, st2⟩ := newP X0 hx hZ (hw _ (List.mem_of_getElem? (i := 1) rfl)) e0 (g := (mkF m 15 #[.val (.int p1), .val (.int p2), .val (.int p3), .val (.int p4), .val (.int ((p1 &&& (2147483647 : Int32)) % (8 : Int32))), .unset, .unset, .unset, .unset] [(.int (0 : Int32))])) rfl (hb hby at_15) rfl (by decide) (cap := 0) (by decide) (by decide) (by decide) (by decide)
    obtain ⟨b2, g2⟩ : ∃ z, z = h0.size := ⟨_, rfl⟩
    rw [← g2] at A2 st2
    have g_b2 : n0 ≤ b2 := Nat.le_trans Z0 (Nat.le_of_eq g2.symm)
    have V_b2 : Arv Z h2 b2 k2 .char (0 : Int32) [] (.int 0) := Arv.new A2 (by decide)
    refine go1 st2 ?_
    show Go p.tables e below T2 (mkF m 17 #[.val (.int p1), .val (.int p2), .val (.int p3), .val (.int p4), .val (.int ((p1 &&& (2147483647 : Int32)) % (8 : Int32))), .unset, .unset, .unset, .unset] [(.ref b2)]) _
    refine go1 (fun _ => XS.astore X2.here hx rfl (hb hby at_17) rfl rfl (l' := #[.val (.int p1), .val (.int p2), .val (.int p3), .val (.int p4), .val (.int ((p1 &&& (2147483647 : Int32)) % (8 : Int32))), .val (.ref b2), .unset, .unset, .unset]) rfl) ?_
    show Go p.tables e below T2 (mkF m 19 #[.val (.int p1), .val (.int p2), .val (.int p3), .val (.int p4), .val (.int ((p1 &&& (2147483647 : Int32)) % (8 : Int32))), .val (.ref b2), .unset, .unset, .unset] []) _
    refine go1 (fun _ => XS.goto X2.here hx rfl (pc0 := 19) (pc' := 122) rfl (hb hby at_19) (by decide) (by decide)) ?_
    show Go p.tables e below T2 (mkF m 122 #[.val (.int p1), .val (.int p2), .val (.int p3), .val (.int p4), .val (.int ((p1 &&& (2147483647 : Int32)) % (8 : Int32))), .val (.ref b2), .unset, .unset, .unset] []) _
    refine go1 (fun _ => XS.aload X2.here hx rfl (hb hby at_122) rfl rfl) ?_
    show Go p.tables e below T2 (mkF m 124 #[.val (.int p1), .val (.int p2), .val (.int p3), .val (.int p4), .val (.int ((p1 &&& (2147483647 : Int32)) % (8 : Int32))), .val (.ref b2), .unset, .unset, .unset] [(.ref b2)]) _
    have vo3 := V_b2
    obtain ⟨cl3, Ar3, -, S3, M3, -, -⟩ := vo3
    refine go1 (T' := T2) (g' := (mkF m 125 #[.val (.int p1), .val (.int p2), .val (.int p3), .val (.int p4), .val (.int ((p1 &&& (2147483647 : Int32)) % (8 : Int32))), .val (.ref b2), .unset, .unset, .unset] [(.int (0 : Int32))])) (fun t k => ?_) ?_
    · refine X2.arraylength hx (by rw [e2]; exact Ar3.1) (State.isArrayOf_alike hZ.alike Ar3.2.1) (g := (mkF m 124 #[.val (.int p1), .val (.int p2), .val (.int p3), .val (.int p4), .val (.int ((p1 &&& (2147483647 : Int32)) % (8 : Int32))), .val (.ref b2), .unset, .unset, .unset] [(.ref b2)])) rfl rfl (hb hby at_124) _ ?_
      rw [len_of S3 M3]
      exact k
    show Go p.tables e below T2 (mkF m 125 #[.val (.int p1), .val (.int p2), .val (.int p3), .val (.int p4), .val (.int ((p1 &&& (2147483647 : Int32)) % (8 : Int32))), .val (.ref b2), .unset, .unset, .unset] [(.int (0 : Int32))]) _
    refine go1 (fun _ => XS.istore X2.here hx rfl (hb hby at_125) rfl (l' := #[.val (.int p1), .val (.int p2), .val (.int p3), .val (.int p4), .val (.int ((p1 &&& (2147483647 : Int32)) % (8 : Int32))), .val (.ref b2), .val (.int (0 : Int32)), .unset, .unset]) rfl) ?_
    show Go p.tables e below T2 (mkF m 127 #[.val (.int p1), .val (.int p2), .val (.int p3), .val (.int p4), .val (.int ((p1 &&& (2147483647 : Int32)) % (8 : Int32))), .val (.ref b2), .val (.int (0 : Int32)), .unset, .unset] []) _
    refine go1 (fun _ => XS.iload X2.here hx rfl (hb hby at_127) rfl) ?_
    show Go p.tables e below T2 (mkF m 129 #[.val (.int p1), .val (.int p2), .val (.int p3), .val (.int p4), .val (.int ((p1 &&& (2147483647 : Int32)) % (8 : Int32))), .val (.ref b2), .val (.int (0 : Int32)), .unset, .unset] [(.int (0 : Int32))]) _
    refine go1 (fun _ => XS.ifYes X2.here hx rfl (pc0 := 129) (pc' := 168) rfl (hb hby at_129) rfl ((if0 _ _).trans (flt (by decide : ¬ ((0 : Int32) < (0 : Int32)))).2.2.2) (by decide) (by decide)) ?_
    show Go p.tables e below T2 (mkF m 168 #[.val (.int p1), .val (.int p2), .val (.int p3), .val (.int p4), .val (.int ((p1 &&& (2147483647 : Int32)) % (8 : Int32))), .val (.ref b2), .val (.int (0 : Int32)), .unset, .unset] []) _
    obtain ⟨T4, h4, X4, e4, E4, A4, D4, -, st4⟩ := newO X2 hx hZ hown (hw _ (List.mem_of_getElem? (i := 2) rfl)) (hw _ (List.mem_of_getElem? (i := 3) rfl)) (hw _ (List.mem_of_getElem? (i := 4) rfl)) e2 (g := (mkF m 168 #[.val (.int p1), .val (.int p2), .val (.int p3), .val (.int p4), .val (.int ((p1 &&& (2147483647 : Int32)) % (8 : Int32))), .val (.ref b2), .val (.int (0 : Int32)), .unset, .unset] [])) rfl (hb hby at_168) (by decide) (by decide)
    obtain ⟨b4, g4⟩ : ∃ z, z = h2.size := ⟨_, rfl⟩
    rw [← g4] at A4 D4 st4
    have g_b4 : n0 ≤ b4 := Nat.le_trans (Nat.le_trans Z0 E2.1) (Nat.le_of_eq g4.symm)
    have F_value_b4 : Fld Z h4 b4 "java/lang/String" "value" "[B" .null := D4 (Or.inr (hw _ (List.mem_of_getElem? (i := 17) rfl))) (ty := (.array .byte)) (by decide)
    have F_coder_b4 : Fld Z h4 b4 "java/lang/String" "coder" "B" (.int (0 : Int32)) := D4 (Or.inr (hw _ (List.mem_of_getElem? (i := 18) rfl))) (ty := .byte) (by decide)
    refine go1 st4 ?_
    show Go p.tables e below T4 (mkF m 171 #[.val (.int p1), .val (.int p2), .val (.int p3), .val (.int p4), .val (.int ((p1 &&& (2147483647 : Int32)) % (8 : Int32))), .val (.ref b2), .val (.int (0 : Int32)), .unset, .unset] [(.ref b4)]) _
    refine go1 (fun _ => XS.dup X4.here hx rfl (hb hby at_171) rfl rfl) ?_
    show Go p.tables e below T4 (mkF m 172 #[.val (.int p1), .val (.int p2), .val (.int p3), .val (.int p4), .val (.int ((p1 &&& (2147483647 : Int32)) % (8 : Int32))), .val (.ref b2), .val (.int (0 : Int32)), .unset, .unset] [(.ref b4), (.ref b4)]) _
    refine go1 (fun _ => XS.aload X4.here hx rfl (hb hby at_172) rfl rfl) ?_
    show Go p.tables e below T4 (mkF m 174 #[.val (.int p1), .val (.int p2), .val (.int p3), .val (.int p4), .val (.int ((p1 &&& (2147483647 : Int32)) % (8 : Int32))), .val (.ref b2), .val (.int (0 : Int32)), .unset, .unset] [(.ref b2), (.ref b4), (.ref b4)]) _
    obtain ⟨_, _, ⟨T5, L5, k5, n5⟩, -, X5, hq5, hg5, ⟨Lc5, hQ5, l5, y5, z5⟩, st5⟩ := X4.specialBackS hx (y := (⟨"java/lang/String", "<init>", "([C)V"⟩ : MethodName)) rfl hown (mvT hZ (hw _ (List.mem_of_getElem? (i := 5) rfl))) (mvT hZ (hw _ (List.mem_of_getElem? (i := 6) rfl))) (mvT hZ (hw _ (List.mem_of_getElem? (i := 7) rfl))) (by decide) (backOfSC (s := s) (vm0 := s.vm) (EL := consts_1) (W := 1) (rms1z l Z a0 hw [] b4 b2 k2 [] h4 n0 (Nat.le_trans (Nat.le_trans Z0 E2.1) E4.1) F_value_b4 F_coder_b4 A4 g_b4 (V_b2.ext E4)) hZ (hw _ (List.mem_of_getElem? (i := 7) rfl)) (hw _ (List.mem_of_getElem? (i := 4) rfl)) (by decide) (by decide) hEL (CHv.ext E4 (CHv.ext E2 hCH))) (g := (mkF m 174 #[.val (.int p1), .val (.int p2), .val (.int p3), .val (.int p4), .val (.int ((p1 &&& (2147483647 : Int32)) % (8 : Int32))), .val (.ref b2), .val (.int (0 : Int32)), .unset, .unset] [(.ref b2), (.ref b4), (.ref b4)])) rfl (by rw [hml]; rfl) (Steps.refl _) (a := b4) (argsL := [(.ref b2)]) (rest := [(.ref b4)]) (lenOf pd0_0 rfl) rfl (by show 2 * 0 + _ ≤ _; exact Nat.le_of_eq rfl) (hb hby at_174) (fun _ _ => ⟨rfl, e4, (by decide : 2 + 2 ≤ _), (by decide : 4 + 4 ≤ _)⟩)
    dsimp only [Pt.U, Pt.locs, Pt.cells, Pt.slots] at X5 l5 y5 z5 st5 hQ5 hq5 hg5
    subst l5 y5 z5
    have hS5 : s.Since T5.vm T5.heap.size := foldS (s := s) (vm0 := s.vm) (T := T4) hS0 (by rw [e4]; exact (Nat.le_trans (Nat.le_trans (Nat.zero_le _) E2.1) E4.1)) hq5 hg5
    have hZ5 : Z.Warmed39 T5.vm := State.Warmed39.trans (t := s.setVm s.vm) hZ hq5.1
    have hown5 : T5.vm.findClass "com/example/under50k/under50k/SitemapReaderIsCutPinLaw" = some m.cls := by
      rw [hq5.1.alike.findClass]; exact hown
    obtain ⟨t6, kt7, rfl, N5q, K5, G5_0, G5_1, G5_2, G5_3⟩ := hQ5
    have N5 := Fr.app N0 N5q
    refine goT st5 ?_
    show Go p.tables e below T5 (mkF m 177 #[.val (.int p1), .val (.int p2), .val (.int p3), .val (.int p4), .val (.int ((p1 &&& (2147483647 : Int32)) % (8 : Int32))), .val (.ref b2), .val (.int (0 : Int32)), .unset, .unset] [(.ref b4)]) _
    refine go1 (fun _ => XS.astore X5.here hx rfl (hb hby at_177) rfl rfl (l' := #[.val (.int p1), .val (.int p2), .val (.int p3), .val (.int p4), .val (.int ((p1 &&& (2147483647 : Int32)) % (8 : Int32))), .val (.ref b2), .val (.int (0 : Int32)), .val (.ref b4), .unset]) rfl) ?_
    show Go p.tables e below T5 (mkF m 179 #[.val (.int p1), .val (.int p2), .val (.int p3), .val (.int p4), .val (.int ((p1 &&& (2147483647 : Int32)) % (8 : Int32))), .val (.ref b2), .val (.int (0 : Int32)), .val (.ref b4), .unset] []) _
    refine go1 (fun _ => XS.iload X5.here hx rfl (hb hby at_179) rfl) ?_
    show Go p.tables e below T5 (mkF m 181 #[.val (.int p1), .val (.int p2), .val (.int p3), .val (.int p4), .val (.int ((p1 &&& (2147483647 : Int32)) % (8 : Int32))), .val (.ref b2), .val (.int (0 : Int32)), .val (.ref b4), .unset] [(.int (0 : Int32))]) _
    refine go1 (fun _ => XS.sipush X5.here hx rfl (hb hby at_181)) ?_
    show Go p.tables e below T5 (mkF m 184 #[.val (.int p1), .val (.int p2), .val (.int p3), .val (.int p4), .val (.int ((p1 &&& (2147483647 : Int32)) % (8 : Int32))), .val (.ref b2), .val (.int (0 : Int32)), .val (.ref b4), .unset] [(.int (8192 : Int32)), (.int (0 : Int32))]) _
    refine go1 (fun _ => XS.icmpYes X5.here hx rfl (pc0 := 184) (pc' := 191) rfl (hb hby at_184) rfl (flt (by decide : ¬ ((8192 : Int32) < (0 : Int32)))).2.2.2 (by decide) (by decide)) ?_
    show Go p.tables e below T5 (mkF m 191 #[.val (.int p1), .val (.int p2), .val (.int p3), .val (.int p4), .val (.int ((p1 &&& (2147483647 : Int32)) % (8 : Int32))), .val (.ref b2), .val (.int (0 : Int32)), .val (.ref b4), .unset] []) _
    refine go1 (fun _ => XS.iconst X5.here hx rfl (hb hby at_191)) ?_
    show Go p.tables e below T5 (mkF m 192 #[.val (.int p1), .val (.int p2), .val (.int p3), .val (.int p4), .val (.int ((p1 &&& (2147483647 : Int32)) % (8 : Int32))), .val (.ref b2), .val (.int (0 : Int32)), .val (.ref b4), .unset] [(.int (0 : Int32))]) _
    refine go1 (fun _ => XS.istore X5.here hx rfl (hb hby at_192) rfl (l' := #[.val (.int p1), .val (.int p2), .val (.int p3), .val (.int p4), .val (.int ((p1 &&& (2147483647 : Int32)) % (8 : Int32))), .val (.ref b2), .val (.int (0 : Int32)), .val (.ref b4), .val (.int (0 : Int32))]) rfl) ?_
    show Go p.tables e below T5 (mkF m 194 #[.val (.int p1), .val (.int p2), .val (.int p3), .val (.int p4), .val (.int ((p1 &&& (2147483647 : Int32)) % (8 : Int32))), .val (.ref b2), .val (.int (0 : Int32)), .val (.ref b4), .val (.int (0 : Int32))] []) _
    refine go1 (fun _ => XS.aload X5.here hx rfl (hb hby at_194) rfl rfl) ?_
    show Go p.tables e below T5 (mkF m 196 #[.val (.int p1), .val (.int p2), .val (.int p3), .val (.int p4), .val (.int ((p1 &&& (2147483647 : Int32)) % (8 : Int32))), .val (.ref b2), .val (.int (0 : Int32)), .val (.ref b4), .val (.int (0 : Int32))] [(.ref b4)]) _
    obtain ⟨_, _, ⟨T8, L8, k8, n8⟩, -, X8, ⟨Lc8, hQ8, l8, y8, z8⟩, st8⟩ := Jvm.LawKit.callS X5 hx (y := (⟨"com/example/under50k/under50k/SitemapReader", "isCut", "(Ljava/lang/String;)Z"⟩ : MethodName)) hown5 (mvT hZ5 (hw _ (List.mem_of_getElem? (i := 23) rfl))) (mvT hZ5 (hw _ (List.mem_of_getElem? (i := 24) rfl))) (mvT hZ5 (hw _ (List.mem_of_getElem? (i := 25) rfl))) (mvT hZ5 (hw _ (List.mem_of_getElem? (i := 26) rfl))) (by decide) (backOf (W := 0) (rm4 l Z a0 hw [] b4 t6 kt7 (0 : Int32) [] a_COMPACT_STRINGS T5.heap n0 (Nat.le_trans (Nat.le_trans (Nat.le_trans Z0 E2.1) E4.1) K5.1) (((O0.ext E2).ext E4).keep K5 (allS g_b4 all0)) S_COMPACT_STRINGS P_a_COMPACT_STRINGS G5_1 G5_2 G5_3 G5_0) hZ5 (hw _ (List.mem_of_getElem? (i := 26) rfl)) (hw _ (List.mem_of_getElem? (i := 25) rfl)) (by decide) (by decide)) (g := (mkF m 196 #[.val (.int p1), .val (.int p2), .val (.int p3), .val (.int p4), .val (.int ((p1 &&& (2147483647 : Int32)) % (8 : Int32))), .val (.ref b2), .val (.int (0 : Int32)), .val (.ref b4), .val (.int (0 : Int32))] [(.ref b4)])) rfl (by rw [hml]; rfl) (argsL := [(.ref b4)]) (rest := []) (lenOf pd0_1 rfl) rfl (by show 2 * 0 + _ ≤ _; exact Nat.le_of_eq rfl) (hb hby at_196) (fun _ _ => ⟨rfl, rfl, (by decide : 4 + 0 ≤ _), (by decide : 8 + 0 ≤ _)⟩)
    dsimp only [Pt.U, Pt.locs, Pt.cells, Pt.slots] at X8 l8 y8 z8 st8 hQ8
    subst l8 y8 z8
    obtain ⟨rfl, N8q, e8⟩ := hQ8
    have N8 := Fr.app N5 N8q
    refine go1 st8 ?_
    show Go p.tables e below T8 (mkF m 199 #[.val (.int p1), .val (.int p2), .val (.int p3), .val (.int p4), .val (.int ((p1 &&& (2147483647 : Int32)) % (8 : Int32))), .val (.ref b2), .val (.int (0 : Int32)), .val (.ref b4), .val (.int (0 : Int32))] [(.int (own_4 (0 : Int32)))]) _
    refine go1 (fun _ => XS.iload X8.here hx rfl (hb hby at_199) rfl) ?_
    show Go p.tables e below T8 (mkF m 201 #[.val (.int p1), .val (.int p2), .val (.int p3), .val (.int p4), .val (.int ((p1 &&& (2147483647 : Int32)) % (8 : Int32))), .val (.ref b2), .val (.int (0 : Int32)), .val (.ref b4), .val (.int (0 : Int32))] [(.int (0 : Int32)), (.int (own_4 (0 : Int32)))]) _
    refine go1 (fun _ => XS.icmpNo X8.here hx rfl (hb hby at_201) rfl (teq (by decide)).2) ?_
    show Go p.tables e below T8 (mkF m 204 #[.val (.int p1), .val (.int p2), .val (.int p3), .val (.int p4), .val (.int ((p1 &&& (2147483647 : Int32)) % (8 : Int32))), .val (.ref b2), .val (.int (0 : Int32)), .val (.ref b4), .val (.int (0 : Int32))] []) _
    refine go1 (fun _ => XS.iconst X8.here hx rfl (hb hby at_204)) ?_
    show Go p.tables e below T8 (mkF m 205 #[.val (.int p1), .val (.int p2), .val (.int p3), .val (.int p4), .val (.int ((p1 &&& (2147483647 : Int32)) % (8 : Int32))), .val (.ref b2), .val (.int (0 : Int32)), .val (.ref b4), .val (.int (0 : Int32))] [(.int (1 : Int32))]) _
    refine go1 (fun _ => XS.goto X8.here hx rfl (pc0 := 205) (pc' := 209) rfl (hb hby at_205) (by decide) (by decide)) ?_
    show Go p.tables e below T8 (mkF m 209 #[.val (.int p1), .val (.int p2), .val (.int p3), .val (.int p4), .val (.int ((p1 &&& (2147483647 : Int32)) % (8 : Int32))), .val (.ref b2), .val (.int (0 : Int32)), .val (.ref b4), .val (.int (0 : Int32))] [(.int (1 : Int32))]) _
    refine goRW (s := s) (vm₁ := T5.vm) X8 hS5 (by rw [e8]; exact (Nat.le_refl _)) (BodyLoose.notSynchronized Bd) (v := (some (.int (1 : Int32)))) (fun h => by rw [Bd.returns] at h; cases h) (Q0 Z p1 p2 p3 p4 a_COMPACT_STRINGS h0 n0) (fun fs hr => retN X8 hx (t := .boolean) Bd.returns (by simp) (hb hby at_209) hr) (by decide) (by decide) ?_
    show Q0 Z p1 p2 p3 p4 a_COMPACT_STRINGS h0 n0 _ T8.heap _
    rw [e8]
    exact ⟨rfl, N8⟩
  · skip
    refine go1 (fun _ => XS.ifYes X0.here hx rfl (pc0 := 11) (pc' := 22) rfl (hb hby at_11) rfl ((if0 _ _).trans (feq hc1).2) (by decide) (by decide)) ?_
    show Go p.tables e below s₁ (mkF m 22 #[.val (.int p1), .val (.int p2), .val (.int p3), .val (.int p4), .val (.int ((p1 &&& (2147483647 : Int32)) % (8 : Int32))), .unset, .unset, .unset, .unset] []) _
    refine go1 (fun _ => XS.iload X0.here hx rfl (hb hby at_22) rfl) ?_
    show Go p.tables e below s₁ (mkF m 24 #[.val (.int p1), .val (.int p2), .val (.int p3), .val (.int p4), .val (.int ((p1 &&& (2147483647 : Int32)) % (8 : Int32))), .unset, .unset, .unset, .unset] [(.int ((p1 &&& (2147483647 : Int32)) % (8 : Int32)))]) _
    refine go1 (fun _ => XS.iconst X0.here hx rfl (hb hby at_24)) ?_
    show Go p.tables e below s₁ (mkF m 25 #[.val (.int p1), .val (.int p2), .val (.int p3), .val (.int p4), .val (.int ((p1 &&& (2147483647 : Int32)) % (8 : Int32))), .unset, .unset, .unset, .unset] [(.int (1 : Int32)), (.int ((p1 &&& (2147483647 : Int32)) % (8 : Int32)))]) _
    by_cases hc9 : ((p1 &&& (2147483647 : Int32)) % (8 : Int32)) = (1 : Int32)
    · skip
      refine go1 (fun _ => XS.icmpNo X0.here hx rfl (hb hby at_25) rfl (teq hc9).2) ?_
      show Go p.tables e below s₁ (mkF m 28 #[.val (.int p1), .val (.int p2), .val (.int p3), .val (.int p4), .val (.int ((p1 &&& (2147483647 : Int32)) % (8 : Int32))), .unset, .unset, .unset, .unset] []) _
      refine go1 (fun _ => XS.iconst X0.here hx rfl (hb hby at_28)) ?_
      show Go p.tables e below s₁ (mkF m 29 #[.val (.int p1), .val (.int p2), .val (.int p3), .val (.int p4), .val (.int ((p1 &&& (2147483647 : Int32)) % (8 : Int32))), .unset, .unset, .unset, .unset] [(.int (1 : Int32))]) _
      obtain ⟨T10, h10, k10, X10, e10, E10, A10, st10⟩ := newP X0 hx hZ (hw _ (List.mem_of_getElem? (i := 1) rfl)) e0 (g := (mkF m 29 #[.val (.int p1), .val (.int p2), .val (.int p3), .val (.int p4), .val (.int ((p1 &&& (2147483647 : Int32)) % (8 : Int32))), .unset, .unset, .unset, .unset] [(.int (1 : Int32))])) rfl (hb hby at_29) rfl (by decide) (cap := 1) (by decide) (by decide) (by decide) (by decide)
      obtain ⟨b10, g10⟩ : ∃ z, z = h0.size := ⟨_, rfl⟩
      rw [← g10] at A10 st10
      have g_b10 : n0 ≤ b10 := Nat.le_trans Z0 (Nat.le_of_eq g10.symm)
      have V_b10 : Arv Z h10 b10 k10 .char (1 : Int32) [] (.int 0) := Arv.new A10 (by decide)
      refine go1 st10 ?_
      show Go p.tables e below T10 (mkF m 31 #[.val (.int p1), .val (.int p2), .val (.int p3), .val (.int p4), .val (.int ((p1 &&& (2147483647 : Int32)) % (8 : Int32))), .unset, .unset, .unset, .unset] [(.ref b10)]) _
      refine go1 (fun _ => XS.astore X10.here hx rfl (hb hby at_31) rfl rfl (l' := #[.val (.int p1), .val (.int p2), .val (.int p3), .val (.int p4), .val (.int ((p1 &&& (2147483647 : Int32)) % (8 : Int32))), .val (.ref b10), .unset, .unset, .unset]) rfl) ?_
      show Go p.tables e below T10 (mkF m 33 #[.val (.int p1), .val (.int p2), .val (.int p3), .val (.int p4), .val (.int ((p1 &&& (2147483647 : Int32)) % (8 : Int32))), .val (.ref b10), .unset, .unset, .unset] []) _
      refine go1 (fun _ => XS.goto X10.here hx rfl (pc0 := 33) (pc' := 122) rfl (hb hby at_33) (by decide) (by decide)) ?_
      show Go p.tables e below T10 (mkF m 122 #[.val (.int p1), .val (.int p2), .val (.int p3), .val (.int p4), .val (.int ((p1 &&& (2147483647 : Int32)) % (8 : Int32))), .val (.ref b10), .unset, .unset, .unset] []) _
      refine go1 (fun _ => XS.aload X10.here hx rfl (hb hby at_122) rfl rfl) ?_
      show Go p.tables e below T10 (mkF m 124 #[.val (.int p1), .val (.int p2), .val (.int p3), .val (.int p4), .val (.int ((p1 &&& (2147483647 : Int32)) % (8 : Int32))), .val (.ref b10), .unset, .unset, .unset] [(.ref b10)]) _
      have vo11 := V_b10
      obtain ⟨cl11, Ar11, -, S11, M11, -, -⟩ := vo11
      refine go1 (T' := T10) (g' := (mkF m 125 #[.val (.int p1), .val (.int p2), .val (.int p3), .val (.int p4), .val (.int ((p1 &&& (2147483647 : Int32)) % (8 : Int32))), .val (.ref b10), .unset, .unset, .unset] [(.int (1 : Int32))])) (fun t k => ?_) ?_
      · refine X10.arraylength hx (by rw [e10]; exact Ar11.1) (State.isArrayOf_alike hZ.alike Ar11.2.1) (g := (mkF m 124 #[.val (.int p1), .val (.int p2), .val (.int p3), .val (.int p4), .val (.int ((p1 &&& (2147483647 : Int32)) % (8 : Int32))), .val (.ref b10), .unset, .unset, .unset] [(.ref b10)])) rfl rfl (hb hby at_124) _ ?_
        rw [len_of S11 M11]
        exact k
      show Go p.tables e below T10 (mkF m 125 #[.val (.int p1), .val (.int p2), .val (.int p3), .val (.int p4), .val (.int ((p1 &&& (2147483647 : Int32)) % (8 : Int32))), .val (.ref b10), .unset, .unset, .unset] [(.int (1 : Int32))]) _
      refine go1 (fun _ => XS.istore X10.here hx rfl (hb hby at_125) rfl (l' := #[.val (.int p1), .val (.int p2), .val (.int p3), .val (.int p4), .val (.int ((p1 &&& (2147483647 : Int32)) % (8 : Int32))), .val (.ref b10), .val (.int (1 : Int32)), .unset, .unset]) rfl) ?_
      show Go p.tables e below T10 (mkF m 127 #[.val (.int p1), .val (.int p2), .val (.int p3), .val (.int p4), .val (.int ((p1 &&& (2147483647 : Int32)) % (8 : Int32))), .val (.ref b10), .val (.int (1 : Int32)), .unset, .unset] []) _
      refine go1 (fun _ => XS.iload X10.here hx rfl (hb hby at_127) rfl) ?_
      show Go p.tables e below T10 (mkF m 129 #[.val (.int p1), .val (.int p2), .val (.int p3), .val (.int p4), .val (.int ((p1 &&& (2147483647 : Int32)) % (8 : Int32))), .val (.ref b10), .val (.int (1 : Int32)), .unset, .unset] [(.int (1 : Int32))]) _
      refine go1 (fun _ => XS.ifNo X10.here hx rfl (hb hby at_129) rfl ((if0 _ _).trans (tlt (by decide : (0 : Int32) < (1 : Int32))).2.2.2)) ?_
      show Go p.tables e below T10 (mkF m 132 #[.val (.int p1), .val (.int p2), .val (.int p3), .val (.int p4), .val (.int ((p1 &&& (2147483647 : Int32)) % (8 : Int32))), .val (.ref b10), .val (.int (1 : Int32)), .unset, .unset] []) _
      refine go1 (fun _ => XS.aload X10.here hx rfl (hb hby at_132) rfl rfl) ?_
      show Go p.tables e below T10 (mkF m 134 #[.val (.int p1), .val (.int p2), .val (.int p3), .val (.int p4), .val (.int ((p1 &&& (2147483647 : Int32)) % (8 : Int32))), .val (.ref b10), .val (.int (1 : Int32)), .unset, .unset] [(.ref b10)]) _
      refine go1 (fun _ => XS.iload X10.here hx rfl (hb hby at_134) rfl) ?_
      show Go p.tables e below T10 (mkF m 136 #[.val (.int p1), .val (.int p2), .val (.int p3), .val (.int p4), .val (.int ((p1 &&& (2147483647 : Int32)) % (8 : Int32))), .val (.ref b10), .val (.int (1 : Int32)), .unset, .unset] [(.int (1 : Int32)), (.ref b10)]) _
      refine go1 (fun _ => XS.iconst X10.here hx rfl (hb hby at_136)) ?_
      show Go p.tables e below T10 (mkF m 137 #[.val (.int p1), .val (.int p2), .val (.int p3), .val (.int p4), .val (.int ((p1 &&& (2147483647 : Int32)) % (8 : Int32))), .val (.ref b10), .val (.int (1 : Int32)), .unset, .unset] [(.int (2 : Int32)), (.int (1 : Int32)), (.ref b10)]) _
      refine go1 (fun _ => XS.idiv X10.here hx rfl (hb hby at_137) rfl (by decide)) ?_
      show Go p.tables e below T10 (mkF m 138 #[.val (.int p1), .val (.int p2), .val (.int p3), .val (.int p4), .val (.int ((p1 &&& (2147483647 : Int32)) % (8 : Int32))), .val (.ref b10), .val (.int (1 : Int32)), .unset, .unset] [(.int (0 : Int32)), (.ref b10)]) _
      refine go1 (fun _ => XS.iloadN X10.here hx rfl (hb hby at_138) rfl) ?_
      show Go p.tables e below T10 (mkF m 139 #[.val (.int p1), .val (.int p2), .val (.int p3), .val (.int p4), .val (.int ((p1 &&& (2147483647 : Int32)) % (8 : Int32))), .val (.ref b10), .val (.int (1 : Int32)), .unset, .unset] [(.int p3), (.int (0 : Int32)), (.ref b10)]) _
      refine go1 (fun _ => XS.sipush X10.here hx rfl (hb hby at_139)) ?_
      show Go p.tables e below T10 (mkF m 142 #[.val (.int p1), .val (.int p2), .val (.int p3), .val (.int p4), .val (.int ((p1 &&& (2147483647 : Int32)) % (8 : Int32))), .val (.ref b10), .val (.int (1 : Int32)), .unset, .unset] [(.int (255 : Int32)), (.int p3), (.int (0 : Int32)), (.ref b10)]) _
      refine go1 (fun _ => XS.iand X10.here hx rfl (hb hby at_142) rfl) ?_
      show Go p.tables e below T10 (mkF m 143 #[.val (.int p1), .val (.int p2), .val (.int p3), .val (.int p4), .val (.int ((p1 &&& (2147483647 : Int32)) % (8 : Int32))), .val (.ref b10), .val (.int (1 : Int32)), .unset, .unset] [(.int (p3 &&& (255 : Int32))), (.int (0 : Int32)), (.ref b10)]) _
      refine go1 (fun _ => XS.i2c X10.here hx rfl (hb hby at_143) rfl) ?_
      show Go p.tables e below T10 (mkF m 144 #[.val (.int p1), .val (.int p2), .val (.int p3), .val (.int p4), .val (.int ((p1 &&& (2147483647 : Int32)) % (8 : Int32))), .val (.ref b10), .val (.int (1 : Int32)), .unset, .unset] [(.int ((p3 &&& (255 : Int32)).toUInt32.toUInt16.toUInt32.toInt32)), (.int (0 : Int32)), (.ref b10)]) _
      obtain ⟨va10, Vp10, hlen10, hlat10⟩ := own_arr V_b10
      have vo12 := Vp10
      obtain ⟨cl12, Ar12, q12, S12, M12, H12, G12⟩ := vo12
      have hin12 := inb_of (j := (0 : Int32)) S12 ⟨by decide, by decide⟩
      obtain ⟨T12, h12, X12, e12, W12, st12⟩ := stC X10 hx hZ e10 Ar12 (j := (0 : Int32)) hin12 (g := (mkF m 144 #[.val (.int p1), .val (.int p2), .val (.int p3), .val (.int p4), .val (.int ((p1 &&& (2147483647 : Int32)) % (8 : Int32))), .val (.ref b10), .val (.int (1 : Int32)), .unset, .unset] [(.int ((p3 &&& (255 : Int32)).toUInt32.toUInt16.toUInt32.toInt32)), (.int (0 : Int32)), (.ref b10)])) rfl rfl (hb hby at_144)
      refine go1 st12 ?_
      have N12 := Fr.snoc X12 N0 g_b10
      have Vq12 : Arv Z h12 b10 k10 .char (1 : Int32) (va10.set 0 (.int (nar .char ((p3 &&& (255 : Int32)).toUInt32.toUInt16.toUInt32.toInt32)))) (.int 0) := Arv.set Ar12 q12 S12 M12 H12 G12 (fits_nar_char _) W12 0 (by decide) (by rw [hlen10]; decide)
      obtain ⟨va12, hva12⟩ : ∃ q, q = (va10.set 0 (.int (nar .char ((p3 &&& (255 : Int32)).toUInt32.toUInt16.toUInt32.toInt32)))) := ⟨_, rfl⟩
      have hlat12 : LatL va12 := by rw [hva12]; exact LatL.set hlat10 _ _ (own_ch p3)
      have hlen12 : va12.length = ((1 : Int32)).toNatClampNeg := by rw [hva12, List.length_set]; exact hlen10
      rw [← hva12] at Vq12
      show Go p.tables e below T12 (mkF m 145 #[.val (.int p1), .val (.int p2), .val (.int p3), .val (.int p4), .val (.int ((p1 &&& (2147483647 : Int32)) % (8 : Int32))), .val (.ref b10), .val (.int (1 : Int32)), .unset, .unset] []) _
      refine go1 (fun _ => XS.aload X12.here hx rfl (hb hby at_145) rfl rfl) ?_
      show Go p.tables e below T12 (mkF m 147 #[.val (.int p1), .val (.int p2), .val (.int p3), .val (.int p4), .val (.int ((p1 &&& (2147483647 : Int32)) % (8 : Int32))), .val (.ref b10), .val (.int (1 : Int32)), .unset, .unset] [(.ref b10)]) _
      refine go1 (fun _ => XS.iconst X12.here hx rfl (hb hby at_147)) ?_
      show Go p.tables e below T12 (mkF m 148 #[.val (.int p1), .val (.int p2), .val (.int p3), .val (.int p4), .val (.int ((p1 &&& (2147483647 : Int32)) % (8 : Int32))), .val (.ref b10), .val (.int (1 : Int32)), .unset, .unset] [(.int (0 : Int32)), (.ref b10)]) _
      refine go1 (fun _ => XS.iloadN X12.here hx rfl (hb hby at_148) rfl) ?_
      show Go p.tables e below T12 (mkF m 149 #[.val (.int p1), .val (.int p2), .val (.int p3), .val (.int p4), .val (.int ((p1 &&& (2147483647 : Int32)) % (8 : Int32))), .val (.ref b10), .val (.int (1 : Int32)), .unset, .unset] [(.int p2), (.int (0 : Int32)), (.ref b10)]) _
      refine go1 (fun _ => XS.sipush X12.here hx rfl (hb hby at_149)) ?_
      show Go p.tables e below T12 (mkF m 152 #[.val (.int p1), .val (.int p2), .val (.int p3), .val (.int p4), .val (.int ((p1 &&& (2147483647 : Int32)) % (8 : Int32))), .val (.ref b10), .val (.int (1 : Int32)), .unset, .unset] [(.int (255 : Int32)), (.int p2), (.int (0 : Int32)), (.ref b10)]) _
      refine go1 (fun _ => XS.iand X12.here hx rfl (hb hby at_152) rfl) ?_
      show Go p.tables e below T12 (mkF m 153 #[.val (.int p1), .val (.int p2), .val (.int p3), .val (.int p4), .val (.int ((p1 &&& (2147483647 : Int32)) % (8 : Int32))), .val (.ref b10), .val (.int (1 : Int32)), .unset, .unset] [(.int (p2 &&& (255 : Int32))), (.int (0 : Int32)), (.ref b10)]) _
      refine go1 (fun _ => XS.i2c X12.here hx rfl (hb hby at_153) rfl) ?_
      show Go p.tables e below T12 (mkF m 154 #[.val (.int p1), .val (.int p2), .val (.int p3), .val (.int p4), .val (.int ((p1 &&& (2147483647 : Int32)) % (8 : Int32))), .val (.ref b10), .val (.int (1 : Int32)), .unset, .unset] [(.int ((p2 &&& (255 : Int32)).toUInt32.toUInt16.toUInt32.toInt32)), (.int (0 : Int32)), (.ref b10)]) _
      have vo13 := Vq12
      obtain ⟨cl13, Ar13, q13, S13, M13, H13, G13⟩ := vo13
      have hin13 := inb_of (j := (0 : Int32)) S13 ⟨by decide, by decide⟩
      obtain ⟨T13, h13, X13, e13, W13, st13⟩ := stC X12 hx hZ e12 Ar13 (j := (0 : Int32)) hin13 (g := (mkF m 154 #[.val (.int p1), .val (.int p2), .val (.int p3), .val (.int p4), .val (.int ((p1 &&& (2147483647 : Int32)) % (8 : Int32))), .val (.ref b10), .val (.int (1 : Int32)), .unset, .unset] [(.int ((p2 &&& (255 : Int32)).toUInt32.toUInt16.toUInt32.toInt32)), (.int (0 : Int32)), (.ref b10)])) rfl rfl (hb hby at_154)
      refine go1 st13 ?_
      have N13 := Fr.snoc X13 N12 g_b10
      have Vq13 : Arv Z h13 b10 k10 .char (1 : Int32) (va12.set 0 (.int (nar .char ((p2 &&& (255 : Int32)).toUInt32.toUInt16.toUInt32.toInt32)))) (.int 0) := Arv.set Ar13 q13 S13 M13 H13 G13 (fits_nar_char _) W13 0 (by decide) (by rw [hlen12]; decide)
      obtain ⟨va13, hva13⟩ : ∃ q, q = (va12.set 0 (.int (nar .char ((p2 &&& (255 : Int32)).toUInt32.toUInt16.toUInt32.toInt32)))) := ⟨_, rfl⟩
      have hlat13 : LatL va13 := by rw [hva13]; exact LatL.set hlat12 _ _ (own_ch p2)
      have hlen13 : va13.length = ((1 : Int32)).toNatClampNeg := by rw [hva13, List.length_set]; exact hlen12
      rw [← hva13] at Vq13
      show Go p.tables e below T13 (mkF m 155 #[.val (.int p1), .val (.int p2), .val (.int p3), .val (.int p4), .val (.int ((p1 &&& (2147483647 : Int32)) % (8 : Int32))), .val (.ref b10), .val (.int (1 : Int32)), .unset, .unset] []) _
      refine go1 (fun _ => XS.aload X13.here hx rfl (hb hby at_155) rfl rfl) ?_
      show Go p.tables e below T13 (mkF m 157 #[.val (.int p1), .val (.int p2), .val (.int p3), .val (.int p4), .val (.int ((p1 &&& (2147483647 : Int32)) % (8 : Int32))), .val (.ref b10), .val (.int (1 : Int32)), .unset, .unset] [(.ref b10)]) _
      refine go1 (fun _ => XS.iload X13.here hx rfl (hb hby at_157) rfl) ?_
      show Go p.tables e below T13 (mkF m 159 #[.val (.int p1), .val (.int p2), .val (.int p3), .val (.int p4), .val (.int ((p1 &&& (2147483647 : Int32)) % (8 : Int32))), .val (.ref b10), .val (.int (1 : Int32)), .unset, .unset] [(.int (1 : Int32)), (.ref b10)]) _
      refine go1 (fun _ => XS.iconst X13.here hx rfl (hb hby at_159)) ?_
      show Go p.tables e below T13 (mkF m 160 #[.val (.int p1), .val (.int p2), .val (.int p3), .val (.int p4), .val (.int ((p1 &&& (2147483647 : Int32)) % (8 : Int32))), .val (.ref b10), .val (.int (1 : Int32)), .unset, .unset] [(.int (1 : Int32)), (.int (1 : Int32)), (.ref b10)]) _
      refine go1 (fun _ => XS.isub X13.here hx rfl (hb hby at_160) rfl) ?_
      show Go p.tables e below T13 (mkF m 161 #[.val (.int p1), .val (.int p2), .val (.int p3), .val (.int p4), .val (.int ((p1 &&& (2147483647 : Int32)) % (8 : Int32))), .val (.ref b10), .val (.int (1 : Int32)), .unset, .unset] [(.int (0 : Int32)), (.ref b10)]) _
      refine go1 (fun _ => XS.iloadN X13.here hx rfl (hb hby at_161) rfl) ?_
      show Go p.tables e below T13 (mkF m 162 #[.val (.int p1), .val (.int p2), .val (.int p3), .val (.int p4), .val (.int ((p1 &&& (2147483647 : Int32)) % (8 : Int32))), .val (.ref b10), .val (.int (1 : Int32)), .unset, .unset] [(.int p4), (.int (0 : Int32)), (.ref b10)]) _
      refine go1 (fun _ => XS.sipush X13.here hx rfl (hb hby at_162)) ?_
      show Go p.tables e below T13 (mkF m 165 #[.val (.int p1), .val (.int p2), .val (.int p3), .val (.int p4), .val (.int ((p1 &&& (2147483647 : Int32)) % (8 : Int32))), .val (.ref b10), .val (.int (1 : Int32)), .unset, .unset] [(.int (255 : Int32)), (.int p4), (.int (0 : Int32)), (.ref b10)]) _
      refine go1 (fun _ => XS.iand X13.here hx rfl (hb hby at_165) rfl) ?_
      show Go p.tables e below T13 (mkF m 166 #[.val (.int p1), .val (.int p2), .val (.int p3), .val (.int p4), .val (.int ((p1 &&& (2147483647 : Int32)) % (8 : Int32))), .val (.ref b10), .val (.int (1 : Int32)), .unset, .unset] [(.int (p4 &&& (255 : Int32))), (.int (0 : Int32)), (.ref b10)]) _
      refine go1 (fun _ => XS.i2c X13.here hx rfl (hb hby at_166) rfl) ?_
      show Go p.tables e below T13 (mkF m 167 #[.val (.int p1), .val (.int p2), .val (.int p3), .val (.int p4), .val (.int ((p1 &&& (2147483647 : Int32)) % (8 : Int32))), .val (.ref b10), .val (.int (1 : Int32)), .unset, .unset] [(.int ((p4 &&& (255 : Int32)).toUInt32.toUInt16.toUInt32.toInt32)), (.int (0 : Int32)), (.ref b10)]) _
      have vo14 := Vq13
      obtain ⟨cl14, Ar14, q14, S14, M14, H14, G14⟩ := vo14
      have hin14 := inb_of (j := (0 : Int32)) S14 ⟨by decide, by decide⟩
      obtain ⟨T14, h14, X14, e14, W14, st14⟩ := stC X13 hx hZ e13 Ar14 (j := (0 : Int32)) hin14 (g := (mkF m 167 #[.val (.int p1), .val (.int p2), .val (.int p3), .val (.int p4), .val (.int ((p1 &&& (2147483647 : Int32)) % (8 : Int32))), .val (.ref b10), .val (.int (1 : Int32)), .unset, .unset] [(.int ((p4 &&& (255 : Int32)).toUInt32.toUInt16.toUInt32.toInt32)), (.int (0 : Int32)), (.ref b10)])) rfl rfl (hb hby at_167)
      refine go1 st14 ?_
      have N14 := Fr.snoc X14 N13 g_b10
      have Vq14 : Arv Z h14 b10 k10 .char (1 : Int32) (va13.set 0 (.int (nar .char ((p4 &&& (255 : Int32)).toUInt32.toUInt16.toUInt32.toInt32)))) (.int 0) := Arv.set Ar14 q14 S14 M14 H14 G14 (fits_nar_char _) W14 0 (by decide) (by rw [hlen13]; decide)
      obtain ⟨va14, hva14⟩ : ∃ q, q = (va13.set 0 (.int (nar .char ((p4 &&& (255 : Int32)).toUInt32.toUInt16.toUInt32.toInt32)))) := ⟨_, rfl⟩
      have hlat14 : LatL va14 := by rw [hva14]; exact LatL.set hlat13 _ _ (own_ch p4)
      have hlen14 : va14.length = ((1 : Int32)).toNatClampNeg := by rw [hva14, List.length_set]; exact hlen13
      rw [← hva14] at Vq14
      show Go p.tables e below T14 (mkF m 168 #[.val (.int p1), .val (.int p2), .val (.int p3), .val (.int p4), .val (.int ((p1 &&& (2147483647 : Int32)) % (8 : Int32))), .val (.ref b10), .val (.int (1 : Int32)), .unset, .unset] []) _
      obtain ⟨T15, h15, X15, e15, E15, A15, D15, -, st15⟩ := newO X14 hx hZ hown (hw _ (List.mem_of_getElem? (i := 2) rfl)) (hw _ (List.mem_of_getElem? (i := 3) rfl)) (hw _ (List.mem_of_getElem? (i := 4) rfl)) e14 (g := (mkF m 168 #[.val (.int p1), .val (.int p2), .val (.int p3), .val (.int p4), .val (.int ((p1 &&& (2147483647 : Int32)) % (8 : Int32))), .val (.ref b10), .val (.int (1 : Int32)), .unset, .unset] [])) rfl (hb hby at_168) (by decide) (by decide)
      obtain ⟨b15, g15⟩ : ∃ z, z = h14.size := ⟨_, rfl⟩
      rw [← g15] at A15 D15 st15
      have g_b15 : n0 ≤ b15 := Nat.le_trans (Nat.le_trans (Nat.le_trans (Nat.le_trans (Nat.le_trans Z0 E10.1) (Keep.of_wr W12).1) (Keep.of_wr W13).1) (Keep.of_wr W14).1) (Nat.le_of_eq g15.symm)
      have F_value_b15 : Fld Z h15 b15 "java/lang/String" "value" "[B" .null := D15 (Or.inr (hw _ (List.mem_of_getElem? (i := 17) rfl))) (ty := (.array .byte)) (by decide)
      have F_coder_b15 : Fld Z h15 b15 "java/lang/String" "coder" "B" (.int (0 : Int32)) := D15 (Or.inr (hw _ (List.mem_of_getElem? (i := 18) rfl))) (ty := .byte) (by decide)
      refine go1 st15 ?_
      show Go p.tables e below T15 (mkF m 171 #[.val (.int p1), .val (.int p2), .val (.int p3), .val (.int p4), .val (.int ((p1 &&& (2147483647 : Int32)) % (8 : Int32))), .val (.ref b10), .val (.int (1 : Int32)), .unset, .unset] [(.ref b15)]) _
      refine go1 (fun _ => XS.dup X15.here hx rfl (hb hby at_171) rfl rfl) ?_
      show Go p.tables e below T15 (mkF m 172 #[.val (.int p1), .val (.int p2), .val (.int p3), .val (.int p4), .val (.int ((p1 &&& (2147483647 : Int32)) % (8 : Int32))), .val (.ref b10), .val (.int (1 : Int32)), .unset, .unset] [(.ref b15), (.ref b15)]) _
      refine go1 (fun _ => XS.aload X15.here hx rfl (hb hby at_172) rfl rfl) ?_
      show Go p.tables e below T15 (mkF m 174 #[.val (.int p1), .val (.int p2), .val (.int p3), .val (.int p4), .val (.int ((p1 &&& (2147483647 : Int32)) % (8 : Int32))), .val (.ref b10), .val (.int (1 : Int32)), .unset, .unset] [(.ref b10), (.ref b15), (.ref b15)]) _
      obtain ⟨_, _, ⟨T16, L16, k16, n16⟩, -, X16, ⟨Lc16, hQ16, l16, y16, z16⟩, st16⟩ := X15.specialBack hx (y := (⟨"java/lang/String", "<init>", "([C)V"⟩ : MethodName)) rfl hown (mvT hZ (hw _ (List.mem_of_getElem? (i := 5) rfl))) (mvT hZ (hw _ (List.mem_of_getElem? (i := 6) rfl))) (mvT hZ (hw _ (List.mem_of_getElem? (i := 7) rfl))) (by decide) (backOf (W := 1) (rm1 l Z a0 hw [] b15 b10 k10 (1 : Int32) va14 a_COMPACT_STRINGS h15 n0 (Nat.le_trans (Nat.le_trans (Nat.le_trans (Nat.le_trans (Nat.le_trans Z0 E10.1) (Keep.of_wr W12).1) (Keep.of_wr W13).1) (Keep.of_wr W14).1) E15.1) F_value_b15 F_coder_b15 A15 g_b15 (((((O0.ext E10).wr W12 g_b10).wr W13 g_b10).wr W14 g_b10).ext E15) S_COMPACT_STRINGS P_a_COMPACT_STRINGS (Vq14.ext E15) hlat14 (by decide) (Nat.ne_of_lt (Nat.lt_of_lt_of_le Vq14.lt (Nat.le_of_eq g15.symm))) (by decide) (by decide)) hZ (hw _ (List.mem_of_getElem? (i := 7) rfl)) (hw _ (List.mem_of_getElem? (i := 4) rfl)) (by decide) (by decide)) (g := (mkF m 174 #[.val (.int p1), .val (.int p2), .val (.int p3), .val (.int p4), .val (.int ((p1 &&& (2147483647 : Int32)) % (8 : Int32))), .val (.ref b10), .val (.int (1 : Int32)), .unset, .unset] [(.ref b10), (.ref b15), (.ref b15)])) rfl (by rw [hml]; rfl) (Steps.refl _) (a := b15) (argsL := [(.ref b10)]) (rest := [(.ref b15)]) (lenOf pd0_0 rfl) rfl (by show 2 * 0 + _ ≤ _; exact Nat.le_of_eq rfl) (hb hby at_174) (fun _ _ => ⟨rfl, e15, (by decide : 2 + 1 ≤ _), (by decide : 5 + 16385 ≤ _)⟩)
      dsimp only [Pt.U, Pt.locs, Pt.cells, Pt.slots] at X16 l16 y16 z16 st16 hQ16
      subst l16 y16 z16
      obtain ⟨t17, kt18, vt19, rfl, N16q, K16, G16_0, G16_1, G16_2, G16_3⟩ := hQ16
      have N16 := Fr.app N14 N16q
      refine goT st16 ?_
      show Go p.tables e below T16 (mkF m 177 #[.val (.int p1), .val (.int p2), .val (.int p3), .val (.int p4), .val (.int ((p1 &&& (2147483647 : Int32)) % (8 : Int32))), .val (.ref b10), .val (.int (1 : Int32)), .unset, .unset] [(.ref b15)]) _
      refine go1 (fun _ => XS.astore X16.here hx rfl (hb hby at_177) rfl rfl (l' := #[.val (.int p1), .val (.int p2), .val (.int p3), .val (.int p4), .val (.int ((p1 &&& (2147483647 : Int32)) % (8 : Int32))), .val (.ref b10), .val (.int (1 : Int32)), .val (.ref b15), .unset]) rfl) ?_
      show Go p.tables e below T16 (mkF m 179 #[.val (.int p1), .val (.int p2), .val (.int p3), .val (.int p4), .val (.int ((p1 &&& (2147483647 : Int32)) % (8 : Int32))), .val (.ref b10), .val (.int (1 : Int32)), .val (.ref b15), .unset] []) _
      refine go1 (fun _ => XS.iload X16.here hx rfl (hb hby at_179) rfl) ?_
      show Go p.tables e below T16 (mkF m 181 #[.val (.int p1), .val (.int p2), .val (.int p3), .val (.int p4), .val (.int ((p1 &&& (2147483647 : Int32)) % (8 : Int32))), .val (.ref b10), .val (.int (1 : Int32)), .val (.ref b15), .unset] [(.int (1 : Int32))]) _
      refine go1 (fun _ => XS.sipush X16.here hx rfl (hb hby at_181)) ?_
      show Go p.tables e below T16 (mkF m 184 #[.val (.int p1), .val (.int p2), .val (.int p3), .val (.int p4), .val (.int ((p1 &&& (2147483647 : Int32)) % (8 : Int32))), .val (.ref b10), .val (.int (1 : Int32)), .val (.ref b15), .unset] [(.int (8192 : Int32)), (.int (1 : Int32))]) _
      refine go1 (fun _ => XS.icmpYes X16.here hx rfl (pc0 := 184) (pc' := 191) rfl (hb hby at_184) rfl (flt (by decide : ¬ ((8192 : Int32) < (1 : Int32)))).2.2.2 (by decide) (by decide)) ?_
      show Go p.tables e below T16 (mkF m 191 #[.val (.int p1), .val (.int p2), .val (.int p3), .val (.int p4), .val (.int ((p1 &&& (2147483647 : Int32)) % (8 : Int32))), .val (.ref b10), .val (.int (1 : Int32)), .val (.ref b15), .unset] []) _
      refine go1 (fun _ => XS.iconst X16.here hx rfl (hb hby at_191)) ?_
      show Go p.tables e below T16 (mkF m 192 #[.val (.int p1), .val (.int p2), .val (.int p3), .val (.int p4), .val (.int ((p1 &&& (2147483647 : Int32)) % (8 : Int32))), .val (.ref b10), .val (.int (1 : Int32)), .val (.ref b15), .unset] [(.int (0 : Int32))]) _
      refine go1 (fun _ => XS.istore X16.here hx rfl (hb hby at_192) rfl (l' := #[.val (.int p1), .val (.int p2), .val (.int p3), .val (.int p4), .val (.int ((p1 &&& (2147483647 : Int32)) % (8 : Int32))), .val (.ref b10), .val (.int (1 : Int32)), .val (.ref b15), .val (.int (0 : Int32))]) rfl) ?_
      show Go p.tables e below T16 (mkF m 194 #[.val (.int p1), .val (.int p2), .val (.int p3), .val (.int p4), .val (.int ((p1 &&& (2147483647 : Int32)) % (8 : Int32))), .val (.ref b10), .val (.int (1 : Int32)), .val (.ref b15), .val (.int (0 : Int32))] []) _
      refine go1 (fun _ => XS.aload X16.here hx rfl (hb hby at_194) rfl rfl) ?_
      show Go p.tables e below T16 (mkF m 196 #[.val (.int p1), .val (.int p2), .val (.int p3), .val (.int p4), .val (.int ((p1 &&& (2147483647 : Int32)) % (8 : Int32))), .val (.ref b10), .val (.int (1 : Int32)), .val (.ref b15), .val (.int (0 : Int32))] [(.ref b15)]) _
      obtain ⟨_, _, ⟨T20, L20, k20, n20⟩, -, X20, ⟨Lc20, hQ20, l20, y20, z20⟩, st20⟩ := Jvm.LawKit.callS X16 hx (y := (⟨"com/example/under50k/under50k/SitemapReader", "isCut", "(Ljava/lang/String;)Z"⟩ : MethodName)) hown (mvT hZ (hw _ (List.mem_of_getElem? (i := 23) rfl))) (mvT hZ (hw _ (List.mem_of_getElem? (i := 24) rfl))) (mvT hZ (hw _ (List.mem_of_getElem? (i := 25) rfl))) (mvT hZ (hw _ (List.mem_of_getElem? (i := 26) rfl))) (by decide) (backOf (W := 0) (rm4 l Z a0 hw [] b15 t17 kt18 (1 : Int32) vt19 a_COMPACT_STRINGS T16.heap n0 (Nat.le_trans (Nat.le_trans (Nat.le_trans (Nat.le_trans (Nat.le_trans (Nat.le_trans Z0 E10.1) (Keep.of_wr W12).1) (Keep.of_wr W13).1) (Keep.of_wr W14).1) E15.1) K16.1) ((((((O0.ext E10).wr W12 g_b10).wr W13 g_b10).wr W14 g_b10).ext E15).keep K16 (allS g_b15 all0)) S_COMPACT_STRINGS P_a_COMPACT_STRINGS G16_1 G16_2 G16_3 G16_0) hZ (hw _ (List.mem_of_getElem? (i := 26) rfl)) (hw _ (List.mem_of_getElem? (i := 25) rfl)) (by decide) (by decide)) (g := (mkF m 196 #[.val (.int p1), .val (.int p2), .val (.int p3), .val (.int p4), .val (.int ((p1 &&& (2147483647 : Int32)) % (8 : Int32))), .val (.ref b10), .val (.int (1 : Int32)), .val (.ref b15), .val (.int (0 : Int32))] [(.ref b15)])) rfl (by rw [hml]; rfl) (argsL := [(.ref b15)]) (rest := []) (lenOf pd0_1 rfl) rfl (by show 2 * 0 + _ ≤ _; exact Nat.le_of_eq rfl) (hb hby at_196) (fun _ _ => ⟨rfl, rfl, (by decide : 3 + 0 ≤ _), (by decide : 16390 + 0 ≤ _)⟩)
      dsimp only [Pt.U, Pt.locs, Pt.cells, Pt.slots] at X20 l20 y20 z20 st20 hQ20
      subst l20 y20 z20
      obtain ⟨rfl, N20q, e20⟩ := hQ20
      have N20 := Fr.app N16 N20q
      refine go1 st20 ?_
      show Go p.tables e below T20 (mkF m 199 #[.val (.int p1), .val (.int p2), .val (.int p3), .val (.int p4), .val (.int ((p1 &&& (2147483647 : Int32)) % (8 : Int32))), .val (.ref b10), .val (.int (1 : Int32)), .val (.ref b15), .val (.int (0 : Int32))] [(.int (own_4 (1 : Int32)))]) _
      refine go1 (fun _ => XS.iload X20.here hx rfl (hb hby at_199) rfl) ?_
      show Go p.tables e below T20 (mkF m 201 #[.val (.int p1), .val (.int p2), .val (.int p3), .val (.int p4), .val (.int ((p1 &&& (2147483647 : Int32)) % (8 : Int32))), .val (.ref b10), .val (.int (1 : Int32)), .val (.ref b15), .val (.int (0 : Int32))] [(.int (0 : Int32)), (.int (own_4 (1 : Int32)))]) _
      refine go1 (fun _ => XS.icmpNo X20.here hx rfl (hb hby at_201) rfl (teq (by decide)).2) ?_
      show Go p.tables e below T20 (mkF m 204 #[.val (.int p1), .val (.int p2), .val (.int p3), .val (.int p4), .val (.int ((p1 &&& (2147483647 : Int32)) % (8 : Int32))), .val (.ref b10), .val (.int (1 : Int32)), .val (.ref b15), .val (.int (0 : Int32))] []) _
      refine go1 (fun _ => XS.iconst X20.here hx rfl (hb hby at_204)) ?_
      show Go p.tables e below T20 (mkF m 205 #[.val (.int p1), .val (.int p2), .val (.int p3), .val (.int p4), .val (.int ((p1 &&& (2147483647 : Int32)) % (8 : Int32))), .val (.ref b10), .val (.int (1 : Int32)), .val (.ref b15), .val (.int (0 : Int32))] [(.int (1 : Int32))]) _
      refine go1 (fun _ => XS.goto X20.here hx rfl (pc0 := 205) (pc' := 209) rfl (hb hby at_205) (by decide) (by decide)) ?_
      show Go p.tables e below T20 (mkF m 209 #[.val (.int p1), .val (.int p2), .val (.int p3), .val (.int p4), .val (.int ((p1 &&& (2147483647 : Int32)) % (8 : Int32))), .val (.ref b10), .val (.int (1 : Int32)), .val (.ref b15), .val (.int (0 : Int32))] [(.int (1 : Int32))]) _
      refine goRW (s := s) (vm₁ := s.vm) X20 hS0 (by rw [e20]; exact (Nat.le_trans (Nat.le_trans (Nat.le_trans (Nat.le_trans (Nat.le_trans (Nat.le_trans (Nat.zero_le _) E10.1) (Keep.of_wr W12).1) (Keep.of_wr W13).1) (Keep.of_wr W14).1) E15.1) K16.1)) (BodyLoose.notSynchronized Bd) (v := (some (.int (1 : Int32)))) (fun h => by rw [Bd.returns] at h; cases h) (Q0 Z p1 p2 p3 p4 a_COMPACT_STRINGS h0 n0) (fun fs hr => retN X20 hx (t := .boolean) Bd.returns (by simp) (hb hby at_209) hr) (by decide) (by decide) ?_
      show Q0 Z p1 p2 p3 p4 a_COMPACT_STRINGS h0 n0 _ T20.heap _
      rw [e20]
      exact ⟨rfl, N20⟩
    · skip
      refine go1 (fun _ => XS.icmpYes X0.here hx rfl (pc0 := 25) (pc' := 36) rfl (hb hby at_25) rfl (feq hc9).2 (by decide) (by decide)) ?_
      show Go p.tables e below s₁ (mkF m 36 #[.val (.int p1), .val (.int p2), .val (.int p3), .val (.int p4), .val (.int ((p1 &&& (2147483647 : Int32)) % (8 : Int32))), .unset, .unset, .unset, .unset] []) _
      refine go1 (fun _ => XS.iload X0.here hx rfl (hb hby at_36) rfl) ?_
      show Go p.tables e below s₁ (mkF m 38 #[.val (.int p1), .val (.int p2), .val (.int p3), .val (.int p4), .val (.int ((p1 &&& (2147483647 : Int32)) % (8 : Int32))), .unset, .unset, .unset, .unset] [(.int ((p1 &&& (2147483647 : Int32)) % (8 : Int32)))]) _
      refine go1 (fun _ => XS.iconst X0.here hx rfl (hb hby at_38)) ?_
      show Go p.tables e below s₁ (mkF m 39 #[.val (.int p1), .val (.int p2), .val (.int p3), .val (.int p4), .val (.int ((p1 &&& (2147483647 : Int32)) % (8 : Int32))), .unset, .unset, .unset, .unset] [(.int (2 : Int32)), (.int ((p1 &&& (2147483647 : Int32)) % (8 : Int32)))]) _
      by_cases hc21 : ((p1 &&& (2147483647 : Int32)) % (8 : Int32)) = (2 : Int32)
      · skip
        refine go1 (fun _ => XS.icmpNo X0.here hx rfl (hb hby at_39) rfl (teq hc21).2) ?_
        show Go p.tables e below s₁ (mkF m 42 #[.val (.int p1), .val (.int p2), .val (.int p3), .val (.int p4), .val (.int ((p1 &&& (2147483647 : Int32)) % (8 : Int32))), .unset, .unset, .unset, .unset] []) _
        refine go1 (fun _ => XS.iconst X0.here hx rfl (hb hby at_42)) ?_
        show Go p.tables e below s₁ (mkF m 43 #[.val (.int p1), .val (.int p2), .val (.int p3), .val (.int p4), .val (.int ((p1 &&& (2147483647 : Int32)) % (8 : Int32))), .unset, .unset, .unset, .unset] [(.int (2 : Int32))]) _
        obtain ⟨T22, h22, k22, X22, e22, E22, A22, st22⟩ := newP X0 hx hZ (hw _ (List.mem_of_getElem? (i := 1) rfl)) e0 (g := (mkF m 43 #[.val (.int p1), .val (.int p2), .val (.int p3), .val (.int p4), .val (.int ((p1 &&& (2147483647 : Int32)) % (8 : Int32))), .unset, .unset, .unset, .unset] [(.int (2 : Int32))])) rfl (hb hby at_43) rfl (by decide) (cap := 2) (by decide) (by decide) (by decide) (by decide)
        obtain ⟨b22, g22⟩ : ∃ z, z = h0.size := ⟨_, rfl⟩
        rw [← g22] at A22 st22
        have g_b22 : n0 ≤ b22 := Nat.le_trans Z0 (Nat.le_of_eq g22.symm)
        have V_b22 : Arv Z h22 b22 k22 .char (2 : Int32) [] (.int 0) := Arv.new A22 (by decide)
        refine go1 st22 ?_
        show Go p.tables e below T22 (mkF m 45 #[.val (.int p1), .val (.int p2), .val (.int p3), .val (.int p4), .val (.int ((p1 &&& (2147483647 : Int32)) % (8 : Int32))), .unset, .unset, .unset, .unset] [(.ref b22)]) _
        refine go1 (fun _ => XS.astore X22.here hx rfl (hb hby at_45) rfl rfl (l' := #[.val (.int p1), .val (.int p2), .val (.int p3), .val (.int p4), .val (.int ((p1 &&& (2147483647 : Int32)) % (8 : Int32))), .val (.ref b22), .unset, .unset, .unset]) rfl) ?_
        show Go p.tables e below T22 (mkF m 47 #[.val (.int p1), .val (.int p2), .val (.int p3), .val (.int p4), .val (.int ((p1 &&& (2147483647 : Int32)) % (8 : Int32))), .val (.ref b22), .unset, .unset, .unset] []) _
        refine go1 (fun _ => XS.goto X22.here hx rfl (pc0 := 47) (pc' := 122) rfl (hb hby at_47) (by decide) (by decide)) ?_
        show Go p.tables e below T22 (mkF m 122 #[.val (.int p1), .val (.int p2), .val (.int p3), .val (.int p4), .val (.int ((p1 &&& (2147483647 : Int32)) % (8 : Int32))), .val (.ref b22), .unset, .unset, .unset] []) _
        refine go1 (fun _ => XS.aload X22.here hx rfl (hb hby at_122) rfl rfl) ?_
        show Go p.tables e below T22 (mkF m 124 #[.val (.int p1), .val (.int p2), .val (.int p3), .val (.int p4), .val (.int ((p1 &&& (2147483647 : Int32)) % (8 : Int32))), .val (.ref b22), .unset, .unset, .unset] [(.ref b22)]) _
        have vo23 := V_b22
        obtain ⟨cl23, Ar23, -, S23, M23, -, -⟩ := vo23
        refine go1 (T' := T22) (g' := (mkF m 125 #[.val (.int p1), .val (.int p2), .val (.int p3), .val (.int p4), .val (.int ((p1 &&& (2147483647 : Int32)) % (8 : Int32))), .val (.ref b22), .unset, .unset, .unset] [(.int (2 : Int32))])) (fun t k => ?_) ?_
        · refine X22.arraylength hx (by rw [e22]; exact Ar23.1) (State.isArrayOf_alike hZ.alike Ar23.2.1) (g := (mkF m 124 #[.val (.int p1), .val (.int p2), .val (.int p3), .val (.int p4), .val (.int ((p1 &&& (2147483647 : Int32)) % (8 : Int32))), .val (.ref b22), .unset, .unset, .unset] [(.ref b22)])) rfl rfl (hb hby at_124) _ ?_
          rw [len_of S23 M23]
          exact k
        show Go p.tables e below T22 (mkF m 125 #[.val (.int p1), .val (.int p2), .val (.int p3), .val (.int p4), .val (.int ((p1 &&& (2147483647 : Int32)) % (8 : Int32))), .val (.ref b22), .unset, .unset, .unset] [(.int (2 : Int32))]) _
        refine go1 (fun _ => XS.istore X22.here hx rfl (hb hby at_125) rfl (l' := #[.val (.int p1), .val (.int p2), .val (.int p3), .val (.int p4), .val (.int ((p1 &&& (2147483647 : Int32)) % (8 : Int32))), .val (.ref b22), .val (.int (2 : Int32)), .unset, .unset]) rfl) ?_
        show Go p.tables e below T22 (mkF m 127 #[.val (.int p1), .val (.int p2), .val (.int p3), .val (.int p4), .val (.int ((p1 &&& (2147483647 : Int32)) % (8 : Int32))), .val (.ref b22), .val (.int (2 : Int32)), .unset, .unset] []) _
        refine go1 (fun _ => XS.iload X22.here hx rfl (hb hby at_127) rfl) ?_
        show Go p.tables e below T22 (mkF m 129 #[.val (.int p1), .val (.int p2), .val (.int p3), .val (.int p4), .val (.int ((p1 &&& (2147483647 : Int32)) % (8 : Int32))), .val (.ref b22), .val (.int (2 : Int32)), .unset, .unset] [(.int (2 : Int32))]) _
        refine go1 (fun _ => XS.ifNo X22.here hx rfl (hb hby at_129) rfl ((if0 _ _).trans (tlt (by decide : (0 : Int32) < (2 : Int32))).2.2.2)) ?_
        show Go p.tables e below T22 (mkF m 132 #[.val (.int p1), .val (.int p2), .val (.int p3), .val (.int p4), .val (.int ((p1 &&& (2147483647 : Int32)) % (8 : Int32))), .val (.ref b22), .val (.int (2 : Int32)), .unset, .unset] []) _
        refine go1 (fun _ => XS.aload X22.here hx rfl (hb hby at_132) rfl rfl) ?_
        show Go p.tables e below T22 (mkF m 134 #[.val (.int p1), .val (.int p2), .val (.int p3), .val (.int p4), .val (.int ((p1 &&& (2147483647 : Int32)) % (8 : Int32))), .val (.ref b22), .val (.int (2 : Int32)), .unset, .unset] [(.ref b22)]) _
        refine go1 (fun _ => XS.iload X22.here hx rfl (hb hby at_134) rfl) ?_
        show Go p.tables e below T22 (mkF m 136 #[.val (.int p1), .val (.int p2), .val (.int p3), .val (.int p4), .val (.int ((p1 &&& (2147483647 : Int32)) % (8 : Int32))), .val (.ref b22), .val (.int (2 : Int32)), .unset, .unset] [(.int (2 : Int32)), (.ref b22)]) _
        refine go1 (fun _ => XS.iconst X22.here hx rfl (hb hby at_136)) ?_
        show Go p.tables e below T22 (mkF m 137 #[.val (.int p1), .val (.int p2), .val (.int p3), .val (.int p4), .val (.int ((p1 &&& (2147483647 : Int32)) % (8 : Int32))), .val (.ref b22), .val (.int (2 : Int32)), .unset, .unset] [(.int (2 : Int32)), (.int (2 : Int32)), (.ref b22)]) _
        refine go1 (fun _ => XS.idiv X22.here hx rfl (hb hby at_137) rfl (by decide)) ?_
        show Go p.tables e below T22 (mkF m 138 #[.val (.int p1), .val (.int p2), .val (.int p3), .val (.int p4), .val (.int ((p1 &&& (2147483647 : Int32)) % (8 : Int32))), .val (.ref b22), .val (.int (2 : Int32)), .unset, .unset] [(.int (1 : Int32)), (.ref b22)]) _
        refine go1 (fun _ => XS.iloadN X22.here hx rfl (hb hby at_138) rfl) ?_
        show Go p.tables e below T22 (mkF m 139 #[.val (.int p1), .val (.int p2), .val (.int p3), .val (.int p4), .val (.int ((p1 &&& (2147483647 : Int32)) % (8 : Int32))), .val (.ref b22), .val (.int (2 : Int32)), .unset, .unset] [(.int p3), (.int (1 : Int32)), (.ref b22)]) _
        refine go1 (fun _ => XS.sipush X22.here hx rfl (hb hby at_139)) ?_
        show Go p.tables e below T22 (mkF m 142 #[.val (.int p1), .val (.int p2), .val (.int p3), .val (.int p4), .val (.int ((p1 &&& (2147483647 : Int32)) % (8 : Int32))), .val (.ref b22), .val (.int (2 : Int32)), .unset, .unset] [(.int (255 : Int32)), (.int p3), (.int (1 : Int32)), (.ref b22)]) _
        refine go1 (fun _ => XS.iand X22.here hx rfl (hb hby at_142) rfl) ?_
        show Go p.tables e below T22 (mkF m 143 #[.val (.int p1), .val (.int p2), .val (.int p3), .val (.int p4), .val (.int ((p1 &&& (2147483647 : Int32)) % (8 : Int32))), .val (.ref b22), .val (.int (2 : Int32)), .unset, .unset] [(.int (p3 &&& (255 : Int32))), (.int (1 : Int32)), (.ref b22)]) _
        refine go1 (fun _ => XS.i2c X22.here hx rfl (hb hby at_143) rfl) ?_
        show Go p.tables e below T22 (mkF m 144 #[.val (.int p1), .val (.int p2), .val (.int p3), .val (.int p4), .val (.int ((p1 &&& (2147483647 : Int32)) % (8 : Int32))), .val (.ref b22), .val (.int (2 : Int32)), .unset, .unset] [(.int ((p3 &&& (255 : Int32)).toUInt32.toUInt16.toUInt32.toInt32)), (.int (1 : Int32)), (.ref b22)]) _
        obtain ⟨va22, Vp22, hlen22, hlat22⟩ := own_arr V_b22
        have vo24 := Vp22
        obtain ⟨cl24, Ar24, q24, S24, M24, H24, G24⟩ := vo24
        have hin24 := inb_of (j := (1 : Int32)) S24 ⟨by decide, by decide⟩
        obtain ⟨T24, h24, X24, e24, W24, st24⟩ := stC X22 hx hZ e22 Ar24 (j := (1 : Int32)) hin24 (g := (mkF m 144 #[.val (.int p1), .val (.int p2), .val (.int p3), .val (.int p4), .val (.int ((p1 &&& (2147483647 : Int32)) % (8 : Int32))), .val (.ref b22), .val (.int (2 : Int32)), .unset, .unset] [(.int ((p3 &&& (255 : Int32)).toUInt32.toUInt16.toUInt32.toInt32)), (.int (1 : Int32)), (.ref b22)])) rfl rfl (hb hby at_144)
        refine go1 st24 ?_
        have N24 := Fr.snoc X24 N0 g_b22
        have Vq24 : Arv Z h24 b22 k22 .char (2 : Int32) (va22.set 1 (.int (nar .char ((p3 &&& (255 : Int32)).toUInt32.toUInt16.toUInt32.toInt32)))) (.int 0) := Arv.set Ar24 q24 S24 M24 H24 G24 (fits_nar_char _) W24 1 (by decide) (by rw [hlen22]; decide)
        obtain ⟨va24, hva24⟩ : ∃ q, q = (va22.set 1 (.int (nar .char ((p3 &&& (255 : Int32)).toUInt32.toUInt16.toUInt32.toInt32)))) := ⟨_, rfl⟩
        have hlat24 : LatL va24 := by rw [hva24]; exact LatL.set hlat22 _ _ (own_ch p3)
        have hlen24 : va24.length = ((2 : Int32)).toNatClampNeg := by rw [hva24, List.length_set]; exact hlen22
        rw [← hva24] at Vq24
        show Go p.tables e below T24 (mkF m 145 #[.val (.int p1), .val (.int p2), .val (.int p3), .val (.int p4), .val (.int ((p1 &&& (2147483647 : Int32)) % (8 : Int32))), .val (.ref b22), .val (.int (2 : Int32)), .unset, .unset] []) _
        refine go1 (fun _ => XS.aload X24.here hx rfl (hb hby at_145) rfl rfl) ?_
        show Go p.tables e below T24 (mkF m 147 #[.val (.int p1), .val (.int p2), .val (.int p3), .val (.int p4), .val (.int ((p1 &&& (2147483647 : Int32)) % (8 : Int32))), .val (.ref b22), .val (.int (2 : Int32)), .unset, .unset] [(.ref b22)]) _
        refine go1 (fun _ => XS.iconst X24.here hx rfl (hb hby at_147)) ?_
        show Go p.tables e below T24 (mkF m 148 #[.val (.int p1), .val (.int p2), .val (.int p3), .val (.int p4), .val (.int ((p1 &&& (2147483647 : Int32)) % (8 : Int32))), .val (.ref b22), .val (.int (2 : Int32)), .unset, .unset] [(.int (0 : Int32)), (.ref b22)]) _
        refine go1 (fun _ => XS.iloadN X24.here hx rfl (hb hby at_148) rfl) ?_
        show Go p.tables e below T24 (mkF m 149 #[.val (.int p1), .val (.int p2), .val (.int p3), .val (.int p4), .val (.int ((p1 &&& (2147483647 : Int32)) % (8 : Int32))), .val (.ref b22), .val (.int (2 : Int32)), .unset, .unset] [(.int p2), (.int (0 : Int32)), (.ref b22)]) _
        refine go1 (fun _ => XS.sipush X24.here hx rfl (hb hby at_149)) ?_
        show Go p.tables e below T24 (mkF m 152 #[.val (.int p1), .val (.int p2), .val (.int p3), .val (.int p4), .val (.int ((p1 &&& (2147483647 : Int32)) % (8 : Int32))), .val (.ref b22), .val (.int (2 : Int32)), .unset, .unset] [(.int (255 : Int32)), (.int p2), (.int (0 : Int32)), (.ref b22)]) _
        refine go1 (fun _ => XS.iand X24.here hx rfl (hb hby at_152) rfl) ?_
        show Go p.tables e below T24 (mkF m 153 #[.val (.int p1), .val (.int p2), .val (.int p3), .val (.int p4), .val (.int ((p1 &&& (2147483647 : Int32)) % (8 : Int32))), .val (.ref b22), .val (.int (2 : Int32)), .unset, .unset] [(.int (p2 &&& (255 : Int32))), (.int (0 : Int32)), (.ref b22)]) _
        refine go1 (fun _ => XS.i2c X24.here hx rfl (hb hby at_153) rfl) ?_
        show Go p.tables e below T24 (mkF m 154 #[.val (.int p1), .val (.int p2), .val (.int p3), .val (.int p4), .val (.int ((p1 &&& (2147483647 : Int32)) % (8 : Int32))), .val (.ref b22), .val (.int (2 : Int32)), .unset, .unset] [(.int ((p2 &&& (255 : Int32)).toUInt32.toUInt16.toUInt32.toInt32)), (.int (0 : Int32)), (.ref b22)]) _
        have vo25 := Vq24
        obtain ⟨cl25, Ar25, q25, S25, M25, H25, G25⟩ := vo25
        have hin25 := inb_of (j := (0 : Int32)) S25 ⟨by decide, by decide⟩
        obtain ⟨T25, h25, X25, e25, W25, st25⟩ := stC X24 hx hZ e24 Ar25 (j := (0 : Int32)) hin25 (g := (mkF m 154 #[.val (.int p1), .val (.int p2), .val (.int p3), .val (.int p4), .val (.int ((p1 &&& (2147483647 : Int32)) % (8 : Int32))), .val (.ref b22), .val (.int (2 : Int32)), .unset, .unset] [(.int ((p2 &&& (255 : Int32)).toUInt32.toUInt16.toUInt32.toInt32)), (.int (0 : Int32)), (.ref b22)])) rfl rfl (hb hby at_154)
        refine go1 st25 ?_
        have N25 := Fr.snoc X25 N24 g_b22
        have Vq25 : Arv Z h25 b22 k22 .char (2 : Int32) (va24.set 0 (.int (nar .char ((p2 &&& (255 : Int32)).toUInt32.toUInt16.toUInt32.toInt32)))) (.int 0) := Arv.set Ar25 q25 S25 M25 H25 G25 (fits_nar_char _) W25 0 (by decide) (by rw [hlen24]; decide)
        obtain ⟨va25, hva25⟩ : ∃ q, q = (va24.set 0 (.int (nar .char ((p2 &&& (255 : Int32)).toUInt32.toUInt16.toUInt32.toInt32)))) := ⟨_, rfl⟩
        have hlat25 : LatL va25 := by rw [hva25]; exact LatL.set hlat24 _ _ (own_ch p2)
        have hlen25 : va25.length = ((2 : Int32)).toNatClampNeg := by rw [hva25, List.length_set]; exact hlen24
        rw [← hva25] at Vq25
        show Go p.tables e below T25 (mkF m 155 #[.val (.int p1), .val (.int p2), .val (.int p3), .val (.int p4), .val (.int ((p1 &&& (2147483647 : Int32)) % (8 : Int32))), .val (.ref b22), .val (.int (2 : Int32)), .unset, .unset] []) _
        refine go1 (fun _ => XS.aload X25.here hx rfl (hb hby at_155) rfl rfl) ?_
        show Go p.tables e below T25 (mkF m 157 #[.val (.int p1), .val (.int p2), .val (.int p3), .val (.int p4), .val (.int ((p1 &&& (2147483647 : Int32)) % (8 : Int32))), .val (.ref b22), .val (.int (2 : Int32)), .unset, .unset] [(.ref b22)]) _
        refine go1 (fun _ => XS.iload X25.here hx rfl (hb hby at_157) rfl) ?_
        show Go p.tables e below T25 (mkF m 159 #[.val (.int p1), .val (.int p2), .val (.int p3), .val (.int p4), .val (.int ((p1 &&& (2147483647 : Int32)) % (8 : Int32))), .val (.ref b22), .val (.int (2 : Int32)), .unset, .unset] [(.int (2 : Int32)), (.ref b22)]) _
        refine go1 (fun _ => XS.iconst X25.here hx rfl (hb hby at_159)) ?_
        show Go p.tables e below T25 (mkF m 160 #[.val (.int p1), .val (.int p2), .val (.int p3), .val (.int p4), .val (.int ((p1 &&& (2147483647 : Int32)) % (8 : Int32))), .val (.ref b22), .val (.int (2 : Int32)), .unset, .unset] [(.int (1 : Int32)), (.int (2 : Int32)), (.ref b22)]) _
        refine go1 (fun _ => XS.isub X25.here hx rfl (hb hby at_160) rfl) ?_
        show Go p.tables e below T25 (mkF m 161 #[.val (.int p1), .val (.int p2), .val (.int p3), .val (.int p4), .val (.int ((p1 &&& (2147483647 : Int32)) % (8 : Int32))), .val (.ref b22), .val (.int (2 : Int32)), .unset, .unset] [(.int (1 : Int32)), (.ref b22)]) _
        refine go1 (fun _ => XS.iloadN X25.here hx rfl (hb hby at_161) rfl) ?_
        show Go p.tables e below T25 (mkF m 162 #[.val (.int p1), .val (.int p2), .val (.int p3), .val (.int p4), .val (.int ((p1 &&& (2147483647 : Int32)) % (8 : Int32))), .val (.ref b22), .val (.int (2 : Int32)), .unset, .unset] [(.int p4), (.int (1 : Int32)), (.ref b22)]) _
        refine go1 (fun _ => XS.sipush X25.here hx rfl (hb hby at_162)) ?_
        show Go p.tables e below T25 (mkF m 165 #[.val (.int p1), .val (.int p2), .val (.int p3), .val (.int p4), .val (.int ((p1 &&& (2147483647 : Int32)) % (8 : Int32))), .val (.ref b22), .val (.int (2 : Int32)), .unset, .unset] [(.int (255 : Int32)), (.int p4), (.int (1 : Int32)), (.ref b22)]) _
        refine go1 (fun _ => XS.iand X25.here hx rfl (hb hby at_165) rfl) ?_
        show Go p.tables e below T25 (mkF m 166 #[.val (.int p1), .val (.int p2), .val (.int p3), .val (.int p4), .val (.int ((p1 &&& (2147483647 : Int32)) % (8 : Int32))), .val (.ref b22), .val (.int (2 : Int32)), .unset, .unset] [(.int (p4 &&& (255 : Int32))), (.int (1 : Int32)), (.ref b22)]) _
        refine go1 (fun _ => XS.i2c X25.here hx rfl (hb hby at_166) rfl) ?_
        show Go p.tables e below T25 (mkF m 167 #[.val (.int p1), .val (.int p2), .val (.int p3), .val (.int p4), .val (.int ((p1 &&& (2147483647 : Int32)) % (8 : Int32))), .val (.ref b22), .val (.int (2 : Int32)), .unset, .unset] [(.int ((p4 &&& (255 : Int32)).toUInt32.toUInt16.toUInt32.toInt32)), (.int (1 : Int32)), (.ref b22)]) _
        have vo26 := Vq25
        obtain ⟨cl26, Ar26, q26, S26, M26, H26, G26⟩ := vo26
        have hin26 := inb_of (j := (1 : Int32)) S26 ⟨by decide, by decide⟩
        obtain ⟨T26, h26, X26, e26, W26, st26⟩ := stC X25 hx hZ e25 Ar26 (j := (1 : Int32)) hin26 (g := (mkF m 167 #[.val (.int p1), .val (.int p2), .val (.int p3), .val (.int p4), .val (.int ((p1 &&& (2147483647 : Int32)) % (8 : Int32))), .val (.ref b22), .val (.int (2 : Int32)), .unset, .unset] [(.int ((p4 &&& (255 : Int32)).toUInt32.toUInt16.toUInt32.toInt32)), (.int (1 : Int32)), (.ref b22)])) rfl rfl (hb hby at_167)
        refine go1 st26 ?_
        have N26 := Fr.snoc X26 N25 g_b22
        have Vq26 : Arv Z h26 b22 k22 .char (2 : Int32) (va25.set 1 (.int (nar .char ((p4 &&& (255 : Int32)).toUInt32.toUInt16.toUInt32.toInt32)))) (.int 0) := Arv.set Ar26 q26 S26 M26 H26 G26 (fits_nar_char _) W26 1 (by decide) (by rw [hlen25]; decide)
        obtain ⟨va26, hva26⟩ : ∃ q, q = (va25.set 1 (.int (nar .char ((p4 &&& (255 : Int32)).toUInt32.toUInt16.toUInt32.toInt32)))) := ⟨_, rfl⟩
        have hlat26 : LatL va26 := by rw [hva26]; exact LatL.set hlat25 _ _ (own_ch p4)
        have hlen26 : va26.length = ((2 : Int32)).toNatClampNeg := by rw [hva26, List.length_set]; exact hlen25
        rw [← hva26] at Vq26
        show Go p.tables e below T26 (mkF m 168 #[.val (.int p1), .val (.int p2), .val (.int p3), .val (.int p4), .val (.int ((p1 &&& (2147483647 : Int32)) % (8 : Int32))), .val (.ref b22), .val (.int (2 : Int32)), .unset, .unset] []) _
        obtain ⟨T27, h27, X27, e27, E27, A27, D27, -, st27⟩ := newO X26 hx hZ hown (hw _ (List.mem_of_getElem? (i := 2) rfl)) (hw _ (List.mem_of_getElem? (i := 3) rfl)) (hw _ (List.mem_of_getElem? (i := 4) rfl)) e26 (g := (mkF m 168 #[.val (.int p1), .val (.int p2), .val (.int p3), .val (.int p4), .val (.int ((p1 &&& (2147483647 : Int32)) % (8 : Int32))), .val (.ref b22), .val (.int (2 : Int32)), .unset, .unset] [])) rfl (hb hby at_168) (by decide) (by decide)
        obtain ⟨b27, g27⟩ : ∃ z, z = h26.size := ⟨_, rfl⟩
        rw [← g27] at A27 D27 st27
        have g_b27 : n0 ≤ b27 := Nat.le_trans (Nat.le_trans (Nat.le_trans (Nat.le_trans (Nat.le_trans Z0 E22.1) (Keep.of_wr W24).1) (Keep.of_wr W25).1) (Keep.of_wr W26).1) (Nat.le_of_eq g27.symm)
        have F_value_b27 : Fld Z h27 b27 "java/lang/String" "value" "[B" .null := D27 (Or.inr (hw _ (List.mem_of_getElem? (i := 17) rfl))) (ty := (.array .byte)) (by decide)
        have F_coder_b27 : Fld Z h27 b27 "java/lang/String" "coder" "B" (.int (0 : Int32)) := D27 (Or.inr (hw _ (List.mem_of_getElem? (i := 18) rfl))) (ty := .byte) (by decide)
        refine go1 st27 ?_
        show Go p.tables e below T27 (mkF m 171 #[.val (.int p1), .val (.int p2), .val (.int p3), .val (.int p4), .val (.int ((p1 &&& (2147483647 : Int32)) % (8 : Int32))), .val (.ref b22), .val (.int (2 : Int32)), .unset, .unset] [(.ref b27)]) _
        refine go1 (fun _ => XS.dup X27.here hx rfl (hb hby at_171) rfl rfl) ?_
        show Go p.tables e below T27 (mkF m 172 #[.val (.int p1), .val (.int p2), .val (.int p3), .val (.int p4), .val (.int ((p1 &&& (2147483647 : Int32)) % (8 : Int32))), .val (.ref b22), .val (.int (2 : Int32)), .unset, .unset] [(.ref b27), (.ref b27)]) _
        refine go1 (fun _ => XS.aload X27.here hx rfl (hb hby at_172) rfl rfl) ?_
        show Go p.tables e below T27 (mkF m 174 #[.val (.int p1), .val (.int p2), .val (.int p3), .val (.int p4), .val (.int ((p1 &&& (2147483647 : Int32)) % (8 : Int32))), .val (.ref b22), .val (.int (2 : Int32)), .unset, .unset] [(.ref b22), (.ref b27), (.ref b27)]) _
        obtain ⟨_, _, ⟨T28, L28, k28, n28⟩, -, X28, ⟨Lc28, hQ28, l28, y28, z28⟩, st28⟩ := X27.specialBack hx (y := (⟨"java/lang/String", "<init>", "([C)V"⟩ : MethodName)) rfl hown (mvT hZ (hw _ (List.mem_of_getElem? (i := 5) rfl))) (mvT hZ (hw _ (List.mem_of_getElem? (i := 6) rfl))) (mvT hZ (hw _ (List.mem_of_getElem? (i := 7) rfl))) (by decide) (backOf (W := 1) (rm1 l Z a0 hw [] b27 b22 k22 (2 : Int32) va26 a_COMPACT_STRINGS h27 n0 (Nat.le_trans (Nat.le_trans (Nat.le_trans (Nat.le_trans (Nat.le_trans Z0 E22.1) (Keep.of_wr W24).1) (Keep.of_wr W25).1) (Keep.of_wr W26).1) E27.1) F_value_b27 F_coder_b27 A27 g_b27 (((((O0.ext E22).wr W24 g_b22).wr W25 g_b22).wr W26 g_b22).ext E27) S_COMPACT_STRINGS P_a_COMPACT_STRINGS (Vq26.ext E27) hlat26 (by decide) (Nat.ne_of_lt (Nat.lt_of_lt_of_le Vq26.lt (Nat.le_of_eq g27.symm))) (by decide) (by decide)) hZ (hw _ (List.mem_of_getElem? (i := 7) rfl)) (hw _ (List.mem_of_getElem? (i := 4) rfl)) (by decide) (by decide)) (g := (mkF m 174 #[.val (.int p1), .val (.int p2), .val (.int p3), .val (.int p4), .val (.int ((p1 &&& (2147483647 : Int32)) % (8 : Int32))), .val (.ref b22), .val (.int (2 : Int32)), .unset, .unset] [(.ref b22), (.ref b27), (.ref b27)])) rfl (by rw [hml]; rfl) (Steps.refl _) (a := b27) (argsL := [(.ref b22)]) (rest := [(.ref b27)]) (lenOf pd0_0 rfl) rfl (by show 2 * 0 + _ ≤ _; exact Nat.le_of_eq rfl) (hb hby at_174) (fun _ _ => ⟨rfl, e27, (by decide : 2 + 1 ≤ _), (by decide : 6 + 16385 ≤ _)⟩)
        dsimp only [Pt.U, Pt.locs, Pt.cells, Pt.slots] at X28 l28 y28 z28 st28 hQ28
        subst l28 y28 z28
        obtain ⟨t29, kt30, vt31, rfl, N28q, K28, G28_0, G28_1, G28_2, G28_3⟩ := hQ28
        have N28 := Fr.app N26 N28q
        refine goT st28 ?_
        show Go p.tables e below T28 (mkF m 177 #[.val (.int p1), .val (.int p2), .val (.int p3), .val (.int p4), .val (.int ((p1 &&& (2147483647 : Int32)) % (8 : Int32))), .val (.ref b22), .val (.int (2 : Int32)), .unset, .unset] [(.ref b27)]) _
        refine go1 (fun _ => XS.astore X28.here hx rfl (hb hby at_177) rfl rfl (l' := #[.val (.int p1), .val (.int p2), .val (.int p3), .val (.int p4), .val (.int ((p1 &&& (2147483647 : Int32)) % (8 : Int32))), .val (.ref b22), .val (.int (2 : Int32)), .val (.ref b27), .unset]) rfl) ?_
        show Go p.tables e below T28 (mkF m 179 #[.val (.int p1), .val (.int p2), .val (.int p3), .val (.int p4), .val (.int ((p1 &&& (2147483647 : Int32)) % (8 : Int32))), .val (.ref b22), .val (.int (2 : Int32)), .val (.ref b27), .unset] []) _
        refine go1 (fun _ => XS.iload X28.here hx rfl (hb hby at_179) rfl) ?_
        show Go p.tables e below T28 (mkF m 181 #[.val (.int p1), .val (.int p2), .val (.int p3), .val (.int p4), .val (.int ((p1 &&& (2147483647 : Int32)) % (8 : Int32))), .val (.ref b22), .val (.int (2 : Int32)), .val (.ref b27), .unset] [(.int (2 : Int32))]) _
        refine go1 (fun _ => XS.sipush X28.here hx rfl (hb hby at_181)) ?_
        show Go p.tables e below T28 (mkF m 184 #[.val (.int p1), .val (.int p2), .val (.int p3), .val (.int p4), .val (.int ((p1 &&& (2147483647 : Int32)) % (8 : Int32))), .val (.ref b22), .val (.int (2 : Int32)), .val (.ref b27), .unset] [(.int (8192 : Int32)), (.int (2 : Int32))]) _
        refine go1 (fun _ => XS.icmpYes X28.here hx rfl (pc0 := 184) (pc' := 191) rfl (hb hby at_184) rfl (flt (by decide : ¬ ((8192 : Int32) < (2 : Int32)))).2.2.2 (by decide) (by decide)) ?_
        show Go p.tables e below T28 (mkF m 191 #[.val (.int p1), .val (.int p2), .val (.int p3), .val (.int p4), .val (.int ((p1 &&& (2147483647 : Int32)) % (8 : Int32))), .val (.ref b22), .val (.int (2 : Int32)), .val (.ref b27), .unset] []) _
        refine go1 (fun _ => XS.iconst X28.here hx rfl (hb hby at_191)) ?_
        show Go p.tables e below T28 (mkF m 192 #[.val (.int p1), .val (.int p2), .val (.int p3), .val (.int p4), .val (.int ((p1 &&& (2147483647 : Int32)) % (8 : Int32))), .val (.ref b22), .val (.int (2 : Int32)), .val (.ref b27), .unset] [(.int (0 : Int32))]) _
        refine go1 (fun _ => XS.istore X28.here hx rfl (hb hby at_192) rfl (l' := #[.val (.int p1), .val (.int p2), .val (.int p3), .val (.int p4), .val (.int ((p1 &&& (2147483647 : Int32)) % (8 : Int32))), .val (.ref b22), .val (.int (2 : Int32)), .val (.ref b27), .val (.int (0 : Int32))]) rfl) ?_
        show Go p.tables e below T28 (mkF m 194 #[.val (.int p1), .val (.int p2), .val (.int p3), .val (.int p4), .val (.int ((p1 &&& (2147483647 : Int32)) % (8 : Int32))), .val (.ref b22), .val (.int (2 : Int32)), .val (.ref b27), .val (.int (0 : Int32))] []) _
        refine go1 (fun _ => XS.aload X28.here hx rfl (hb hby at_194) rfl rfl) ?_
        show Go p.tables e below T28 (mkF m 196 #[.val (.int p1), .val (.int p2), .val (.int p3), .val (.int p4), .val (.int ((p1 &&& (2147483647 : Int32)) % (8 : Int32))), .val (.ref b22), .val (.int (2 : Int32)), .val (.ref b27), .val (.int (0 : Int32))] [(.ref b27)]) _
        obtain ⟨_, _, ⟨T32, L32, k32, n32⟩, -, X32, ⟨Lc32, hQ32, l32, y32, z32⟩, st32⟩ := Jvm.LawKit.callS X28 hx (y := (⟨"com/example/under50k/under50k/SitemapReader", "isCut", "(Ljava/lang/String;)Z"⟩ : MethodName)) hown (mvT hZ (hw _ (List.mem_of_getElem? (i := 23) rfl))) (mvT hZ (hw _ (List.mem_of_getElem? (i := 24) rfl))) (mvT hZ (hw _ (List.mem_of_getElem? (i := 25) rfl))) (mvT hZ (hw _ (List.mem_of_getElem? (i := 26) rfl))) (by decide) (backOf (W := 0) (rm4 l Z a0 hw [] b27 t29 kt30 (2 : Int32) vt31 a_COMPACT_STRINGS T28.heap n0 (Nat.le_trans (Nat.le_trans (Nat.le_trans (Nat.le_trans (Nat.le_trans (Nat.le_trans Z0 E22.1) (Keep.of_wr W24).1) (Keep.of_wr W25).1) (Keep.of_wr W26).1) E27.1) K28.1) ((((((O0.ext E22).wr W24 g_b22).wr W25 g_b22).wr W26 g_b22).ext E27).keep K28 (allS g_b27 all0)) S_COMPACT_STRINGS P_a_COMPACT_STRINGS G28_1 G28_2 G28_3 G28_0) hZ (hw _ (List.mem_of_getElem? (i := 26) rfl)) (hw _ (List.mem_of_getElem? (i := 25) rfl)) (by decide) (by decide)) (g := (mkF m 196 #[.val (.int p1), .val (.int p2), .val (.int p3), .val (.int p4), .val (.int ((p1 &&& (2147483647 : Int32)) % (8 : Int32))), .val (.ref b22), .val (.int (2 : Int32)), .val (.ref b27), .val (.int (0 : Int32))] [(.ref b27)])) rfl (by rw [hml]; rfl) (argsL := [(.ref b27)]) (rest := []) (lenOf pd0_1 rfl) rfl (by show 2 * 0 + _ ≤ _; exact Nat.le_of_eq rfl) (hb hby at_196) (fun _ _ => ⟨rfl, rfl, (by decide : 3 + 0 ≤ _), (by decide : 16391 + 0 ≤ _)⟩)
        dsimp only [Pt.U, Pt.locs, Pt.cells, Pt.slots] at X32 l32 y32 z32 st32 hQ32
        subst l32 y32 z32
        obtain ⟨rfl, N32q, e32⟩ := hQ32
        have N32 := Fr.app N28 N32q
        refine go1 st32 ?_
        show Go p.tables e below T32 (mkF m 199 #[.val (.int p1), .val (.int p2), .val (.int p3), .val (.int p4), .val (.int ((p1 &&& (2147483647 : Int32)) % (8 : Int32))), .val (.ref b22), .val (.int (2 : Int32)), .val (.ref b27), .val (.int (0 : Int32))] [(.int (own_4 (2 : Int32)))]) _
        refine go1 (fun _ => XS.iload X32.here hx rfl (hb hby at_199) rfl) ?_
        show Go p.tables e below T32 (mkF m 201 #[.val (.int p1), .val (.int p2), .val (.int p3), .val (.int p4), .val (.int ((p1 &&& (2147483647 : Int32)) % (8 : Int32))), .val (.ref b22), .val (.int (2 : Int32)), .val (.ref b27), .val (.int (0 : Int32))] [(.int (0 : Int32)), (.int (own_4 (2 : Int32)))]) _
        refine go1 (fun _ => XS.icmpNo X32.here hx rfl (hb hby at_201) rfl (teq (by decide)).2) ?_
        show Go p.tables e below T32 (mkF m 204 #[.val (.int p1), .val (.int p2), .val (.int p3), .val (.int p4), .val (.int ((p1 &&& (2147483647 : Int32)) % (8 : Int32))), .val (.ref b22), .val (.int (2 : Int32)), .val (.ref b27), .val (.int (0 : Int32))] []) _
        refine go1 (fun _ => XS.iconst X32.here hx rfl (hb hby at_204)) ?_
        show Go p.tables e below T32 (mkF m 205 #[.val (.int p1), .val (.int p2), .val (.int p3), .val (.int p4), .val (.int ((p1 &&& (2147483647 : Int32)) % (8 : Int32))), .val (.ref b22), .val (.int (2 : Int32)), .val (.ref b27), .val (.int (0 : Int32))] [(.int (1 : Int32))]) _
        refine go1 (fun _ => XS.goto X32.here hx rfl (pc0 := 205) (pc' := 209) rfl (hb hby at_205) (by decide) (by decide)) ?_
        show Go p.tables e below T32 (mkF m 209 #[.val (.int p1), .val (.int p2), .val (.int p3), .val (.int p4), .val (.int ((p1 &&& (2147483647 : Int32)) % (8 : Int32))), .val (.ref b22), .val (.int (2 : Int32)), .val (.ref b27), .val (.int (0 : Int32))] [(.int (1 : Int32))]) _
        refine goRW (s := s) (vm₁ := s.vm) X32 hS0 (by rw [e32]; exact (Nat.le_trans (Nat.le_trans (Nat.le_trans (Nat.le_trans (Nat.le_trans (Nat.le_trans (Nat.zero_le _) E22.1) (Keep.of_wr W24).1) (Keep.of_wr W25).1) (Keep.of_wr W26).1) E27.1) K28.1)) (BodyLoose.notSynchronized Bd) (v := (some (.int (1 : Int32)))) (fun h => by rw [Bd.returns] at h; cases h) (Q0 Z p1 p2 p3 p4 a_COMPACT_STRINGS h0 n0) (fun fs hr => retN X32 hx (t := .boolean) Bd.returns (by simp) (hb hby at_209) hr) (by decide) (by decide) ?_
        show Q0 Z p1 p2 p3 p4 a_COMPACT_STRINGS h0 n0 _ T32.heap _
        rw [e32]
        exact ⟨rfl, N32⟩
      · skip
        refine go1 (fun _ => XS.icmpYes X0.here hx rfl (pc0 := 39) (pc' := 50) rfl (hb hby at_39) rfl (feq hc21).2 (by decide) (by decide)) ?_
        show Go p.tables e below s₁ (mkF m 50 #[.val (.int p1), .val (.int p2), .val (.int p3), .val (.int p4), .val (.int ((p1 &&& (2147483647 : Int32)) % (8 : Int32))), .unset, .unset, .unset, .unset] []) _
        refine go1 (fun _ => XS.iload X0.here hx rfl (hb hby at_50) rfl) ?_
        show Go p.tables e below s₁ (mkF m 52 #[.val (.int p1), .val (.int p2), .val (.int p3), .val (.int p4), .val (.int ((p1 &&& (2147483647 : Int32)) % (8 : Int32))), .unset, .unset, .unset, .unset] [(.int ((p1 &&& (2147483647 : Int32)) % (8 : Int32)))]) _
        refine go1 (fun _ => XS.iconst X0.here hx rfl (hb hby at_52)) ?_
        show Go p.tables e below s₁ (mkF m 53 #[.val (.int p1), .val (.int p2), .val (.int p3), .val (.int p4), .val (.int ((p1 &&& (2147483647 : Int32)) % (8 : Int32))), .unset, .unset, .unset, .unset] [(.int (3 : Int32)), (.int ((p1 &&& (2147483647 : Int32)) % (8 : Int32)))]) _
        by_cases hc33 : ((p1 &&& (2147483647 : Int32)) % (8 : Int32)) = (3 : Int32)
        · skip
          refine go1 (fun _ => XS.icmpNo X0.here hx rfl (hb hby at_53) rfl (teq hc33).2) ?_
          show Go p.tables e below s₁ (mkF m 56 #[.val (.int p1), .val (.int p2), .val (.int p3), .val (.int p4), .val (.int ((p1 &&& (2147483647 : Int32)) % (8 : Int32))), .unset, .unset, .unset, .unset] []) _
          refine go1 (fun _ => XS.sipush X0.here hx rfl (hb hby at_56)) ?_
          show Go p.tables e below s₁ (mkF m 59 #[.val (.int p1), .val (.int p2), .val (.int p3), .val (.int p4), .val (.int ((p1 &&& (2147483647 : Int32)) % (8 : Int32))), .unset, .unset, .unset, .unset] [(.int (8191 : Int32))]) _
          obtain ⟨T34, h34, k34, X34, e34, E34, A34, st34⟩ := newP X0 hx hZ (hw _ (List.mem_of_getElem? (i := 1) rfl)) e0 (g := (mkF m 59 #[.val (.int p1), .val (.int p2), .val (.int p3), .val (.int p4), .val (.int ((p1 &&& (2147483647 : Int32)) % (8 : Int32))), .unset, .unset, .unset, .unset] [(.int (8191 : Int32))])) rfl (hb hby at_59) rfl (by decide) (cap := 8191) (by decide) (by decide) (by decide) (by decide)
          obtain ⟨b34, g34⟩ : ∃ z, z = h0.size := ⟨_, rfl⟩
          rw [← g34] at A34 st34
          have g_b34 : n0 ≤ b34 := Nat.le_trans Z0 (Nat.le_of_eq g34.symm)
          have V_b34 : Arv Z h34 b34 k34 .char (8191 : Int32) [] (.int 0) := Arv.new A34 (by decide)
          refine go1 st34 ?_
          show Go p.tables e below T34 (mkF m 61 #[.val (.int p1), .val (.int p2), .val (.int p3), .val (.int p4), .val (.int ((p1 &&& (2147483647 : Int32)) % (8 : Int32))), .unset, .unset, .unset, .unset] [(.ref b34)]) _
          refine go1 (fun _ => XS.astore X34.here hx rfl (hb hby at_61) rfl rfl (l' := #[.val (.int p1), .val (.int p2), .val (.int p3), .val (.int p4), .val (.int ((p1 &&& (2147483647 : Int32)) % (8 : Int32))), .val (.ref b34), .unset, .unset, .unset]) rfl) ?_
          show Go p.tables e below T34 (mkF m 63 #[.val (.int p1), .val (.int p2), .val (.int p3), .val (.int p4), .val (.int ((p1 &&& (2147483647 : Int32)) % (8 : Int32))), .val (.ref b34), .unset, .unset, .unset] []) _
          refine go1 (fun _ => XS.goto X34.here hx rfl (pc0 := 63) (pc' := 122) rfl (hb hby at_63) (by decide) (by decide)) ?_
          show Go p.tables e below T34 (mkF m 122 #[.val (.int p1), .val (.int p2), .val (.int p3), .val (.int p4), .val (.int ((p1 &&& (2147483647 : Int32)) % (8 : Int32))), .val (.ref b34), .unset, .unset, .unset] []) _
          refine go1 (fun _ => XS.aload X34.here hx rfl (hb hby at_122) rfl rfl) ?_
          show Go p.tables e below T34 (mkF m 124 #[.val (.int p1), .val (.int p2), .val (.int p3), .val (.int p4), .val (.int ((p1 &&& (2147483647 : Int32)) % (8 : Int32))), .val (.ref b34), .unset, .unset, .unset] [(.ref b34)]) _
          have vo35 := V_b34
          obtain ⟨cl35, Ar35, -, S35, M35, -, -⟩ := vo35
          refine go1 (T' := T34) (g' := (mkF m 125 #[.val (.int p1), .val (.int p2), .val (.int p3), .val (.int p4), .val (.int ((p1 &&& (2147483647 : Int32)) % (8 : Int32))), .val (.ref b34), .unset, .unset, .unset] [(.int (8191 : Int32))])) (fun t k => ?_) ?_
          · refine X34.arraylength hx (by rw [e34]; exact Ar35.1) (State.isArrayOf_alike hZ.alike Ar35.2.1) (g := (mkF m 124 #[.val (.int p1), .val (.int p2), .val (.int p3), .val (.int p4), .val (.int ((p1 &&& (2147483647 : Int32)) % (8 : Int32))), .val (.ref b34), .unset, .unset, .unset] [(.ref b34)])) rfl rfl (hb hby at_124) _ ?_
            rw [len_of S35 M35]
            exact k
          show Go p.tables e below T34 (mkF m 125 #[.val (.int p1), .val (.int p2), .val (.int p3), .val (.int p4), .val (.int ((p1 &&& (2147483647 : Int32)) % (8 : Int32))), .val (.ref b34), .unset, .unset, .unset] [(.int (8191 : Int32))]) _
          refine go1 (fun _ => XS.istore X34.here hx rfl (hb hby at_125) rfl (l' := #[.val (.int p1), .val (.int p2), .val (.int p3), .val (.int p4), .val (.int ((p1 &&& (2147483647 : Int32)) % (8 : Int32))), .val (.ref b34), .val (.int (8191 : Int32)), .unset, .unset]) rfl) ?_
          show Go p.tables e below T34 (mkF m 127 #[.val (.int p1), .val (.int p2), .val (.int p3), .val (.int p4), .val (.int ((p1 &&& (2147483647 : Int32)) % (8 : Int32))), .val (.ref b34), .val (.int (8191 : Int32)), .unset, .unset] []) _
          refine go1 (fun _ => XS.iload X34.here hx rfl (hb hby at_127) rfl) ?_
          show Go p.tables e below T34 (mkF m 129 #[.val (.int p1), .val (.int p2), .val (.int p3), .val (.int p4), .val (.int ((p1 &&& (2147483647 : Int32)) % (8 : Int32))), .val (.ref b34), .val (.int (8191 : Int32)), .unset, .unset] [(.int (8191 : Int32))]) _
          refine go1 (fun _ => XS.ifNo X34.here hx rfl (hb hby at_129) rfl ((if0 _ _).trans (tlt (by decide : (0 : Int32) < (8191 : Int32))).2.2.2)) ?_
          show Go p.tables e below T34 (mkF m 132 #[.val (.int p1), .val (.int p2), .val (.int p3), .val (.int p4), .val (.int ((p1 &&& (2147483647 : Int32)) % (8 : Int32))), .val (.ref b34), .val (.int (8191 : Int32)), .unset, .unset] []) _
          refine go1 (fun _ => XS.aload X34.here hx rfl (hb hby at_132) rfl rfl) ?_
          show Go p.tables e below T34 (mkF m 134 #[.val (.int p1), .val (.int p2), .val (.int p3), .val (.int p4), .val (.int ((p1 &&& (2147483647 : Int32)) % (8 : Int32))), .val (.ref b34), .val (.int (8191 : Int32)), .unset, .unset] [(.ref b34)]) _
          refine go1 (fun _ => XS.iload X34.here hx rfl (hb hby at_134) rfl) ?_
          show Go p.tables e below T34 (mkF m 136 #[.val (.int p1), .val (.int p2), .val (.int p3), .val (.int p4), .val (.int ((p1 &&& (2147483647 : Int32)) % (8 : Int32))), .val (.ref b34), .val (.int (8191 : Int32)), .unset, .unset] [(.int (8191 : Int32)), (.ref b34)]) _
          refine go1 (fun _ => XS.iconst X34.here hx rfl (hb hby at_136)) ?_
          show Go p.tables e below T34 (mkF m 137 #[.val (.int p1), .val (.int p2), .val (.int p3), .val (.int p4), .val (.int ((p1 &&& (2147483647 : Int32)) % (8 : Int32))), .val (.ref b34), .val (.int (8191 : Int32)), .unset, .unset] [(.int (2 : Int32)), (.int (8191 : Int32)), (.ref b34)]) _
          refine go1 (fun _ => XS.idiv X34.here hx rfl (hb hby at_137) rfl (by decide)) ?_
          show Go p.tables e below T34 (mkF m 138 #[.val (.int p1), .val (.int p2), .val (.int p3), .val (.int p4), .val (.int ((p1 &&& (2147483647 : Int32)) % (8 : Int32))), .val (.ref b34), .val (.int (8191 : Int32)), .unset, .unset] [(.int (4095 : Int32)), (.ref b34)]) _
          refine go1 (fun _ => XS.iloadN X34.here hx rfl (hb hby at_138) rfl) ?_
          show Go p.tables e below T34 (mkF m 139 #[.val (.int p1), .val (.int p2), .val (.int p3), .val (.int p4), .val (.int ((p1 &&& (2147483647 : Int32)) % (8 : Int32))), .val (.ref b34), .val (.int (8191 : Int32)), .unset, .unset] [(.int p3), (.int (4095 : Int32)), (.ref b34)]) _
          refine go1 (fun _ => XS.sipush X34.here hx rfl (hb hby at_139)) ?_
          show Go p.tables e below T34 (mkF m 142 #[.val (.int p1), .val (.int p2), .val (.int p3), .val (.int p4), .val (.int ((p1 &&& (2147483647 : Int32)) % (8 : Int32))), .val (.ref b34), .val (.int (8191 : Int32)), .unset, .unset] [(.int (255 : Int32)), (.int p3), (.int (4095 : Int32)), (.ref b34)]) _
          refine go1 (fun _ => XS.iand X34.here hx rfl (hb hby at_142) rfl) ?_
          show Go p.tables e below T34 (mkF m 143 #[.val (.int p1), .val (.int p2), .val (.int p3), .val (.int p4), .val (.int ((p1 &&& (2147483647 : Int32)) % (8 : Int32))), .val (.ref b34), .val (.int (8191 : Int32)), .unset, .unset] [(.int (p3 &&& (255 : Int32))), (.int (4095 : Int32)), (.ref b34)]) _
          refine go1 (fun _ => XS.i2c X34.here hx rfl (hb hby at_143) rfl) ?_
          show Go p.tables e below T34 (mkF m 144 #[.val (.int p1), .val (.int p2), .val (.int p3), .val (.int p4), .val (.int ((p1 &&& (2147483647 : Int32)) % (8 : Int32))), .val (.ref b34), .val (.int (8191 : Int32)), .unset, .unset] [(.int ((p3 &&& (255 : Int32)).toUInt32.toUInt16.toUInt32.toInt32)), (.int (4095 : Int32)), (.ref b34)]) _
          obtain ⟨va34, Vp34, hlen34, hlat34⟩ := own_arr V_b34
          have vo36 := Vp34
          obtain ⟨cl36, Ar36, q36, S36, M36, H36, G36⟩ := vo36
          have hin36 := inb_of (j := (4095 : Int32)) S36 ⟨by decide, by decide⟩
          obtain ⟨T36, h36, X36, e36, W36, st36⟩ := stC X34 hx hZ e34 Ar36 (j := (4095 : Int32)) hin36 (g := (mkF m 144 #[.val (.int p1), .val (.int p2), .val (.int p3), .val (.int p4), .val (.int ((p1 &&& (2147483647 : Int32)) % (8 : Int32))), .val (.ref b34), .val (.int (8191 : Int32)), .unset, .unset] [(.int ((p3 &&& (255 : Int32)).toUInt32.toUInt16.toUInt32.toInt32)), (.int (4095 : Int32)), (.ref b34)])) rfl rfl (hb hby at_144)
          refine go1 st36 ?_
          have N36 := Fr.snoc X36 N0 g_b34
          have Vq36 : Arv Z h36 b34 k34 .char (8191 : Int32) (va34.set 4095 (.int (nar .char ((p3 &&& (255 : Int32)).toUInt32.toUInt16.toUInt32.toInt32)))) (.int 0) := Arv.set Ar36 q36 S36 M36 H36 G36 (fits_nar_char _) W36 4095 (by decide) (by rw [hlen34]; decide)
          obtain ⟨va36, hva36⟩ : ∃ q, q = (va34.set 4095 (.int (nar .char ((p3 &&& (255 : Int32)).toUInt32.toUInt16.toUInt32.toInt32)))) := ⟨_, rfl⟩
          have hlat36 : LatL va36 := by rw [hva36]; exact LatL.set hlat34 _ _ (own_ch p3)
          have hlen36 : va36.length = ((8191 : Int32)).toNatClampNeg := by rw [hva36, List.length_set]; exact hlen34
          rw [← hva36] at Vq36
          show Go p.tables e below T36 (mkF m 145 #[.val (.int p1), .val (.int p2), .val (.int p3), .val (.int p4), .val (.int ((p1 &&& (2147483647 : Int32)) % (8 : Int32))), .val (.ref b34), .val (.int (8191 : Int32)), .unset, .unset] []) _
          refine go1 (fun _ => XS.aload X36.here hx rfl (hb hby at_145) rfl rfl) ?_
          show Go p.tables e below T36 (mkF m 147 #[.val (.int p1), .val (.int p2), .val (.int p3), .val (.int p4), .val (.int ((p1 &&& (2147483647 : Int32)) % (8 : Int32))), .val (.ref b34), .val (.int (8191 : Int32)), .unset, .unset] [(.ref b34)]) _
          refine go1 (fun _ => XS.iconst X36.here hx rfl (hb hby at_147)) ?_
          show Go p.tables e below T36 (mkF m 148 #[.val (.int p1), .val (.int p2), .val (.int p3), .val (.int p4), .val (.int ((p1 &&& (2147483647 : Int32)) % (8 : Int32))), .val (.ref b34), .val (.int (8191 : Int32)), .unset, .unset] [(.int (0 : Int32)), (.ref b34)]) _
          refine go1 (fun _ => XS.iloadN X36.here hx rfl (hb hby at_148) rfl) ?_
          show Go p.tables e below T36 (mkF m 149 #[.val (.int p1), .val (.int p2), .val (.int p3), .val (.int p4), .val (.int ((p1 &&& (2147483647 : Int32)) % (8 : Int32))), .val (.ref b34), .val (.int (8191 : Int32)), .unset, .unset] [(.int p2), (.int (0 : Int32)), (.ref b34)]) _
          refine go1 (fun _ => XS.sipush X36.here hx rfl (hb hby at_149)) ?_
          show Go p.tables e below T36 (mkF m 152 #[.val (.int p1), .val (.int p2), .val (.int p3), .val (.int p4), .val (.int ((p1 &&& (2147483647 : Int32)) % (8 : Int32))), .val (.ref b34), .val (.int (8191 : Int32)), .unset, .unset] [(.int (255 : Int32)), (.int p2), (.int (0 : Int32)), (.ref b34)]) _
          refine go1 (fun _ => XS.iand X36.here hx rfl (hb hby at_152) rfl) ?_
          show Go p.tables e below T36 (mkF m 153 #[.val (.int p1), .val (.int p2), .val (.int p3), .val (.int p4), .val (.int ((p1 &&& (2147483647 : Int32)) % (8 : Int32))), .val (.ref b34), .val (.int (8191 : Int32)), .unset, .unset] [(.int (p2 &&& (255 : Int32))), (.int (0 : Int32)), (.ref b34)]) _
          refine go1 (fun _ => XS.i2c X36.here hx rfl (hb hby at_153) rfl) ?_
          show Go p.tables e below T36 (mkF m 154 #[.val (.int p1), .val (.int p2), .val (.int p3), .val (.int p4), .val (.int ((p1 &&& (2147483647 : Int32)) % (8 : Int32))), .val (.ref b34), .val (.int (8191 : Int32)), .unset, .unset] [(.int ((p2 &&& (255 : Int32)).toUInt32.toUInt16.toUInt32.toInt32)), (.int (0 : Int32)), (.ref b34)]) _
          have vo37 := Vq36
          obtain ⟨cl37, Ar37, q37, S37, M37, H37, G37⟩ := vo37
          have hin37 := inb_of (j := (0 : Int32)) S37 ⟨by decide, by decide⟩
          obtain ⟨T37, h37, X37, e37, W37, st37⟩ := stC X36 hx hZ e36 Ar37 (j := (0 : Int32)) hin37 (g := (mkF m 154 #[.val (.int p1), .val (.int p2), .val (.int p3), .val (.int p4), .val (.int ((p1 &&& (2147483647 : Int32)) % (8 : Int32))), .val (.ref b34), .val (.int (8191 : Int32)), .unset, .unset] [(.int ((p2 &&& (255 : Int32)).toUInt32.toUInt16.toUInt32.toInt32)), (.int (0 : Int32)), (.ref b34)])) rfl rfl (hb hby at_154)
          refine go1 st37 ?_
          have N37 := Fr.snoc X37 N36 g_b34
          have Vq37 : Arv Z h37 b34 k34 .char (8191 : Int32) (va36.set 0 (.int (nar .char ((p2 &&& (255 : Int32)).toUInt32.toUInt16.toUInt32.toInt32)))) (.int 0) := Arv.set Ar37 q37 S37 M37 H37 G37 (fits_nar_char _) W37 0 (by decide) (by rw [hlen36]; decide)
          obtain ⟨va37, hva37⟩ : ∃ q, q = (va36.set 0 (.int (nar .char ((p2 &&& (255 : Int32)).toUInt32.toUInt16.toUInt32.toInt32)))) := ⟨_, rfl⟩
          have hlat37 : LatL va37 := by rw [hva37]; exact LatL.set hlat36 _ _ (own_ch p2)
          have hlen37 : va37.length = ((8191 : Int32)).toNatClampNeg := by rw [hva37, List.length_set]; exact hlen36
          rw [← hva37] at Vq37
          show Go p.tables e below T37 (mkF m 155 #[.val (.int p1), .val (.int p2), .val (.int p3), .val (.int p4), .val (.int ((p1 &&& (2147483647 : Int32)) % (8 : Int32))), .val (.ref b34), .val (.int (8191 : Int32)), .unset, .unset] []) _
          refine go1 (fun _ => XS.aload X37.here hx rfl (hb hby at_155) rfl rfl) ?_
          show Go p.tables e below T37 (mkF m 157 #[.val (.int p1), .val (.int p2), .val (.int p3), .val (.int p4), .val (.int ((p1 &&& (2147483647 : Int32)) % (8 : Int32))), .val (.ref b34), .val (.int (8191 : Int32)), .unset, .unset] [(.ref b34)]) _
          refine go1 (fun _ => XS.iload X37.here hx rfl (hb hby at_157) rfl) ?_
          show Go p.tables e below T37 (mkF m 159 #[.val (.int p1), .val (.int p2), .val (.int p3), .val (.int p4), .val (.int ((p1 &&& (2147483647 : Int32)) % (8 : Int32))), .val (.ref b34), .val (.int (8191 : Int32)), .unset, .unset] [(.int (8191 : Int32)), (.ref b34)]) _
          refine go1 (fun _ => XS.iconst X37.here hx rfl (hb hby at_159)) ?_
          show Go p.tables e below T37 (mkF m 160 #[.val (.int p1), .val (.int p2), .val (.int p3), .val (.int p4), .val (.int ((p1 &&& (2147483647 : Int32)) % (8 : Int32))), .val (.ref b34), .val (.int (8191 : Int32)), .unset, .unset] [(.int (1 : Int32)), (.int (8191 : Int32)), (.ref b34)]) _
          refine go1 (fun _ => XS.isub X37.here hx rfl (hb hby at_160) rfl) ?_
          show Go p.tables e below T37 (mkF m 161 #[.val (.int p1), .val (.int p2), .val (.int p3), .val (.int p4), .val (.int ((p1 &&& (2147483647 : Int32)) % (8 : Int32))), .val (.ref b34), .val (.int (8191 : Int32)), .unset, .unset] [(.int (8190 : Int32)), (.ref b34)]) _
          refine go1 (fun _ => XS.iloadN X37.here hx rfl (hb hby at_161) rfl) ?_
          show Go p.tables e below T37 (mkF m 162 #[.val (.int p1), .val (.int p2), .val (.int p3), .val (.int p4), .val (.int ((p1 &&& (2147483647 : Int32)) % (8 : Int32))), .val (.ref b34), .val (.int (8191 : Int32)), .unset, .unset] [(.int p4), (.int (8190 : Int32)), (.ref b34)]) _
          refine go1 (fun _ => XS.sipush X37.here hx rfl (hb hby at_162)) ?_
          show Go p.tables e below T37 (mkF m 165 #[.val (.int p1), .val (.int p2), .val (.int p3), .val (.int p4), .val (.int ((p1 &&& (2147483647 : Int32)) % (8 : Int32))), .val (.ref b34), .val (.int (8191 : Int32)), .unset, .unset] [(.int (255 : Int32)), (.int p4), (.int (8190 : Int32)), (.ref b34)]) _
          refine go1 (fun _ => XS.iand X37.here hx rfl (hb hby at_165) rfl) ?_
          show Go p.tables e below T37 (mkF m 166 #[.val (.int p1), .val (.int p2), .val (.int p3), .val (.int p4), .val (.int ((p1 &&& (2147483647 : Int32)) % (8 : Int32))), .val (.ref b34), .val (.int (8191 : Int32)), .unset, .unset] [(.int (p4 &&& (255 : Int32))), (.int (8190 : Int32)), (.ref b34)]) _
          refine go1 (fun _ => XS.i2c X37.here hx rfl (hb hby at_166) rfl) ?_
          show Go p.tables e below T37 (mkF m 167 #[.val (.int p1), .val (.int p2), .val (.int p3), .val (.int p4), .val (.int ((p1 &&& (2147483647 : Int32)) % (8 : Int32))), .val (.ref b34), .val (.int (8191 : Int32)), .unset, .unset] [(.int ((p4 &&& (255 : Int32)).toUInt32.toUInt16.toUInt32.toInt32)), (.int (8190 : Int32)), (.ref b34)]) _
          have vo38 := Vq37
          obtain ⟨cl38, Ar38, q38, S38, M38, H38, G38⟩ := vo38
          have hin38 := inb_of (j := (8190 : Int32)) S38 ⟨by decide, by decide⟩
          obtain ⟨T38, h38, X38, e38, W38, st38⟩ := stC X37 hx hZ e37 Ar38 (j := (8190 : Int32)) hin38 (g := (mkF m 167 #[.val (.int p1), .val (.int p2), .val (.int p3), .val (.int p4), .val (.int ((p1 &&& (2147483647 : Int32)) % (8 : Int32))), .val (.ref b34), .val (.int (8191 : Int32)), .unset, .unset] [(.int ((p4 &&& (255 : Int32)).toUInt32.toUInt16.toUInt32.toInt32)), (.int (8190 : Int32)), (.ref b34)])) rfl rfl (hb hby at_167)
          refine go1 st38 ?_
          have N38 := Fr.snoc X38 N37 g_b34
          have Vq38 : Arv Z h38 b34 k34 .char (8191 : Int32) (va37.set 8190 (.int (nar .char ((p4 &&& (255 : Int32)).toUInt32.toUInt16.toUInt32.toInt32)))) (.int 0) := Arv.set Ar38 q38 S38 M38 H38 G38 (fits_nar_char _) W38 8190 (by decide) (by rw [hlen37]; decide)
          obtain ⟨va38, hva38⟩ : ∃ q, q = (va37.set 8190 (.int (nar .char ((p4 &&& (255 : Int32)).toUInt32.toUInt16.toUInt32.toInt32)))) := ⟨_, rfl⟩
          have hlat38 : LatL va38 := by rw [hva38]; exact LatL.set hlat37 _ _ (own_ch p4)
          have hlen38 : va38.length = ((8191 : Int32)).toNatClampNeg := by rw [hva38, List.length_set]; exact hlen37
          rw [← hva38] at Vq38
          show Go p.tables e below T38 (mkF m 168 #[.val (.int p1), .val (.int p2), .val (.int p3), .val (.int p4), .val (.int ((p1 &&& (2147483647 : Int32)) % (8 : Int32))), .val (.ref b34), .val (.int (8191 : Int32)), .unset, .unset] []) _
          obtain ⟨T39, h39, X39, e39, E39, A39, D39, -, st39⟩ := newO X38 hx hZ hown (hw _ (List.mem_of_getElem? (i := 2) rfl)) (hw _ (List.mem_of_getElem? (i := 3) rfl)) (hw _ (List.mem_of_getElem? (i := 4) rfl)) e38 (g := (mkF m 168 #[.val (.int p1), .val (.int p2), .val (.int p3), .val (.int p4), .val (.int ((p1 &&& (2147483647 : Int32)) % (8 : Int32))), .val (.ref b34), .val (.int (8191 : Int32)), .unset, .unset] [])) rfl (hb hby at_168) (by decide) (by decide)
          obtain ⟨b39, g39⟩ : ∃ z, z = h38.size := ⟨_, rfl⟩
          rw [← g39] at A39 D39 st39
          have g_b39 : n0 ≤ b39 := Nat.le_trans (Nat.le_trans (Nat.le_trans (Nat.le_trans (Nat.le_trans Z0 E34.1) (Keep.of_wr W36).1) (Keep.of_wr W37).1) (Keep.of_wr W38).1) (Nat.le_of_eq g39.symm)
          have F_value_b39 : Fld Z h39 b39 "java/lang/String" "value" "[B" .null := D39 (Or.inr (hw _ (List.mem_of_getElem? (i := 17) rfl))) (ty := (.array .byte)) (by decide)
          have F_coder_b39 : Fld Z h39 b39 "java/lang/String" "coder" "B" (.int (0 : Int32)) := D39 (Or.inr (hw _ (List.mem_of_getElem? (i := 18) rfl))) (ty := .byte) (by decide)
          refine go1 st39 ?_
          show Go p.tables e below T39 (mkF m 171 #[.val (.int p1), .val (.int p2), .val (.int p3), .val (.int p4), .val (.int ((p1 &&& (2147483647 : Int32)) % (8 : Int32))), .val (.ref b34), .val (.int (8191 : Int32)), .unset, .unset] [(.ref b39)]) _
          refine go1 (fun _ => XS.dup X39.here hx rfl (hb hby at_171) rfl rfl) ?_
          show Go p.tables e below T39 (mkF m 172 #[.val (.int p1), .val (.int p2), .val (.int p3), .val (.int p4), .val (.int ((p1 &&& (2147483647 : Int32)) % (8 : Int32))), .val (.ref b34), .val (.int (8191 : Int32)), .unset, .unset] [(.ref b39), (.ref b39)]) _
          refine go1 (fun _ => XS.aload X39.here hx rfl (hb hby at_172) rfl rfl) ?_
          show Go p.tables e below T39 (mkF m 174 #[.val (.int p1), .val (.int p2), .val (.int p3), .val (.int p4), .val (.int ((p1 &&& (2147483647 : Int32)) % (8 : Int32))), .val (.ref b34), .val (.int (8191 : Int32)), .unset, .unset] [(.ref b34), (.ref b39), (.ref b39)]) _
          obtain ⟨_, _, ⟨T40, L40, k40, n40⟩, -, X40, ⟨Lc40, hQ40, l40, y40, z40⟩, st40⟩ := X39.specialBack hx (y := (⟨"java/lang/String", "<init>", "([C)V"⟩ : MethodName)) rfl hown (mvT hZ (hw _ (List.mem_of_getElem? (i := 5) rfl))) (mvT hZ (hw _ (List.mem_of_getElem? (i := 6) rfl))) (mvT hZ (hw _ (List.mem_of_getElem? (i := 7) rfl))) (by decide) (backOf (W := 1) (rm1 l Z a0 hw [] b39 b34 k34 (8191 : Int32) va38 a_COMPACT_STRINGS h39 n0 (Nat.le_trans (Nat.le_trans (Nat.le_trans (Nat.le_trans (Nat.le_trans Z0 E34.1) (Keep.of_wr W36).1) (Keep.of_wr W37).1) (Keep.of_wr W38).1) E39.1) F_value_b39 F_coder_b39 A39 g_b39 (((((O0.ext E34).wr W36 g_b34).wr W37 g_b34).wr W38 g_b34).ext E39) S_COMPACT_STRINGS P_a_COMPACT_STRINGS (Vq38.ext E39) hlat38 (by decide) (Nat.ne_of_lt (Nat.lt_of_lt_of_le Vq38.lt (Nat.le_of_eq g39.symm))) (by decide) (by decide)) hZ (hw _ (List.mem_of_getElem? (i := 7) rfl)) (hw _ (List.mem_of_getElem? (i := 4) rfl)) (by decide) (by decide)) (g := (mkF m 174 #[.val (.int p1), .val (.int p2), .val (.int p3), .val (.int p4), .val (.int ((p1 &&& (2147483647 : Int32)) % (8 : Int32))), .val (.ref b34), .val (.int (8191 : Int32)), .unset, .unset] [(.ref b34), (.ref b39), (.ref b39)])) rfl (by rw [hml]; rfl) (Steps.refl _) (a := b39) (argsL := [(.ref b34)]) (rest := [(.ref b39)]) (lenOf pd0_0 rfl) rfl (by show 2 * 0 + _ ≤ _; exact Nat.le_of_eq rfl) (hb hby at_174) (fun _ _ => ⟨rfl, e39, (by decide : 2 + 1 ≤ _), (by decide : 8195 + 16385 ≤ _)⟩)
          dsimp only [Pt.U, Pt.locs, Pt.cells, Pt.slots] at X40 l40 y40 z40 st40 hQ40
          subst l40 y40 z40
          obtain ⟨t41, kt42, vt43, rfl, N40q, K40, G40_0, G40_1, G40_2, G40_3⟩ := hQ40
          have N40 := Fr.app N38 N40q
          refine goT st40 ?_
          show Go p.tables e below T40 (mkF m 177 #[.val (.int p1), .val (.int p2), .val (.int p3), .val (.int p4), .val (.int ((p1 &&& (2147483647 : Int32)) % (8 : Int32))), .val (.ref b34), .val (.int (8191 : Int32)), .unset, .unset] [(.ref b39)]) _
          refine go1 (fun _ => XS.astore X40.here hx rfl (hb hby at_177) rfl rfl (l' := #[.val (.int p1), .val (.int p2), .val (.int p3), .val (.int p4), .val (.int ((p1 &&& (2147483647 : Int32)) % (8 : Int32))), .val (.ref b34), .val (.int (8191 : Int32)), .val (.ref b39), .unset]) rfl) ?_
          show Go p.tables e below T40 (mkF m 179 #[.val (.int p1), .val (.int p2), .val (.int p3), .val (.int p4), .val (.int ((p1 &&& (2147483647 : Int32)) % (8 : Int32))), .val (.ref b34), .val (.int (8191 : Int32)), .val (.ref b39), .unset] []) _
          refine go1 (fun _ => XS.iload X40.here hx rfl (hb hby at_179) rfl) ?_
          show Go p.tables e below T40 (mkF m 181 #[.val (.int p1), .val (.int p2), .val (.int p3), .val (.int p4), .val (.int ((p1 &&& (2147483647 : Int32)) % (8 : Int32))), .val (.ref b34), .val (.int (8191 : Int32)), .val (.ref b39), .unset] [(.int (8191 : Int32))]) _
          refine go1 (fun _ => XS.sipush X40.here hx rfl (hb hby at_181)) ?_
          show Go p.tables e below T40 (mkF m 184 #[.val (.int p1), .val (.int p2), .val (.int p3), .val (.int p4), .val (.int ((p1 &&& (2147483647 : Int32)) % (8 : Int32))), .val (.ref b34), .val (.int (8191 : Int32)), .val (.ref b39), .unset] [(.int (8192 : Int32)), (.int (8191 : Int32))]) _
          refine go1 (fun _ => XS.icmpYes X40.here hx rfl (pc0 := 184) (pc' := 191) rfl (hb hby at_184) rfl (flt (by decide : ¬ ((8192 : Int32) < (8191 : Int32)))).2.2.2 (by decide) (by decide)) ?_
          show Go p.tables e below T40 (mkF m 191 #[.val (.int p1), .val (.int p2), .val (.int p3), .val (.int p4), .val (.int ((p1 &&& (2147483647 : Int32)) % (8 : Int32))), .val (.ref b34), .val (.int (8191 : Int32)), .val (.ref b39), .unset] []) _
          refine go1 (fun _ => XS.iconst X40.here hx rfl (hb hby at_191)) ?_
          show Go p.tables e below T40 (mkF m 192 #[.val (.int p1), .val (.int p2), .val (.int p3), .val (.int p4), .val (.int ((p1 &&& (2147483647 : Int32)) % (8 : Int32))), .val (.ref b34), .val (.int (8191 : Int32)), .val (.ref b39), .unset] [(.int (0 : Int32))]) _
          refine go1 (fun _ => XS.istore X40.here hx rfl (hb hby at_192) rfl (l' := #[.val (.int p1), .val (.int p2), .val (.int p3), .val (.int p4), .val (.int ((p1 &&& (2147483647 : Int32)) % (8 : Int32))), .val (.ref b34), .val (.int (8191 : Int32)), .val (.ref b39), .val (.int (0 : Int32))]) rfl) ?_
          show Go p.tables e below T40 (mkF m 194 #[.val (.int p1), .val (.int p2), .val (.int p3), .val (.int p4), .val (.int ((p1 &&& (2147483647 : Int32)) % (8 : Int32))), .val (.ref b34), .val (.int (8191 : Int32)), .val (.ref b39), .val (.int (0 : Int32))] []) _
          refine go1 (fun _ => XS.aload X40.here hx rfl (hb hby at_194) rfl rfl) ?_
          show Go p.tables e below T40 (mkF m 196 #[.val (.int p1), .val (.int p2), .val (.int p3), .val (.int p4), .val (.int ((p1 &&& (2147483647 : Int32)) % (8 : Int32))), .val (.ref b34), .val (.int (8191 : Int32)), .val (.ref b39), .val (.int (0 : Int32))] [(.ref b39)]) _
          obtain ⟨_, _, ⟨T44, L44, k44, n44⟩, -, X44, ⟨Lc44, hQ44, l44, y44, z44⟩, st44⟩ := Jvm.LawKit.callS X40 hx (y := (⟨"com/example/under50k/under50k/SitemapReader", "isCut", "(Ljava/lang/String;)Z"⟩ : MethodName)) hown (mvT hZ (hw _ (List.mem_of_getElem? (i := 23) rfl))) (mvT hZ (hw _ (List.mem_of_getElem? (i := 24) rfl))) (mvT hZ (hw _ (List.mem_of_getElem? (i := 25) rfl))) (mvT hZ (hw _ (List.mem_of_getElem? (i := 26) rfl))) (by decide) (backOf (W := 0) (rm4 l Z a0 hw [] b39 t41 kt42 (8191 : Int32) vt43 a_COMPACT_STRINGS T40.heap n0 (Nat.le_trans (Nat.le_trans (Nat.le_trans (Nat.le_trans (Nat.le_trans (Nat.le_trans Z0 E34.1) (Keep.of_wr W36).1) (Keep.of_wr W37).1) (Keep.of_wr W38).1) E39.1) K40.1) ((((((O0.ext E34).wr W36 g_b34).wr W37 g_b34).wr W38 g_b34).ext E39).keep K40 (allS g_b39 all0)) S_COMPACT_STRINGS P_a_COMPACT_STRINGS G40_1 G40_2 G40_3 G40_0) hZ (hw _ (List.mem_of_getElem? (i := 26) rfl)) (hw _ (List.mem_of_getElem? (i := 25) rfl)) (by decide) (by decide)) (g := (mkF m 196 #[.val (.int p1), .val (.int p2), .val (.int p3), .val (.int p4), .val (.int ((p1 &&& (2147483647 : Int32)) % (8 : Int32))), .val (.ref b34), .val (.int (8191 : Int32)), .val (.ref b39), .val (.int (0 : Int32))] [(.ref b39)])) rfl (by rw [hml]; rfl) (argsL := [(.ref b39)]) (rest := []) (lenOf pd0_1 rfl) rfl (by show 2 * 0 + _ ≤ _; exact Nat.le_of_eq rfl) (hb hby at_196) (fun _ _ => ⟨rfl, rfl, (by decide : 3 + 0 ≤ _), (by decide : 24580 + 0 ≤ _)⟩)
          dsimp only [Pt.U, Pt.locs, Pt.cells, Pt.slots] at X44 l44 y44 z44 st44 hQ44
          subst l44 y44 z44
          obtain ⟨rfl, N44q, e44⟩ := hQ44
          have N44 := Fr.app N40 N44q
          refine go1 st44 ?_
          show Go p.tables e below T44 (mkF m 199 #[.val (.int p1), .val (.int p2), .val (.int p3), .val (.int p4), .val (.int ((p1 &&& (2147483647 : Int32)) % (8 : Int32))), .val (.ref b34), .val (.int (8191 : Int32)), .val (.ref b39), .val (.int (0 : Int32))] [(.int (own_4 (8191 : Int32)))]) _
          refine go1 (fun _ => XS.iload X44.here hx rfl (hb hby at_199) rfl) ?_
          show Go p.tables e below T44 (mkF m 201 #[.val (.int p1), .val (.int p2), .val (.int p3), .val (.int p4), .val (.int ((p1 &&& (2147483647 : Int32)) % (8 : Int32))), .val (.ref b34), .val (.int (8191 : Int32)), .val (.ref b39), .val (.int (0 : Int32))] [(.int (0 : Int32)), (.int (own_4 (8191 : Int32)))]) _
          refine go1 (fun _ => XS.icmpNo X44.here hx rfl (hb hby at_201) rfl (teq (by decide)).2) ?_
          show Go p.tables e below T44 (mkF m 204 #[.val (.int p1), .val (.int p2), .val (.int p3), .val (.int p4), .val (.int ((p1 &&& (2147483647 : Int32)) % (8 : Int32))), .val (.ref b34), .val (.int (8191 : Int32)), .val (.ref b39), .val (.int (0 : Int32))] []) _
          refine go1 (fun _ => XS.iconst X44.here hx rfl (hb hby at_204)) ?_
          show Go p.tables e below T44 (mkF m 205 #[.val (.int p1), .val (.int p2), .val (.int p3), .val (.int p4), .val (.int ((p1 &&& (2147483647 : Int32)) % (8 : Int32))), .val (.ref b34), .val (.int (8191 : Int32)), .val (.ref b39), .val (.int (0 : Int32))] [(.int (1 : Int32))]) _
          refine go1 (fun _ => XS.goto X44.here hx rfl (pc0 := 205) (pc' := 209) rfl (hb hby at_205) (by decide) (by decide)) ?_
          show Go p.tables e below T44 (mkF m 209 #[.val (.int p1), .val (.int p2), .val (.int p3), .val (.int p4), .val (.int ((p1 &&& (2147483647 : Int32)) % (8 : Int32))), .val (.ref b34), .val (.int (8191 : Int32)), .val (.ref b39), .val (.int (0 : Int32))] [(.int (1 : Int32))]) _
          refine goRW (s := s) (vm₁ := s.vm) X44 hS0 (by rw [e44]; exact (Nat.le_trans (Nat.le_trans (Nat.le_trans (Nat.le_trans (Nat.le_trans (Nat.le_trans (Nat.zero_le _) E34.1) (Keep.of_wr W36).1) (Keep.of_wr W37).1) (Keep.of_wr W38).1) E39.1) K40.1)) (BodyLoose.notSynchronized Bd) (v := (some (.int (1 : Int32)))) (fun h => by rw [Bd.returns] at h; cases h) (Q0 Z p1 p2 p3 p4 a_COMPACT_STRINGS h0 n0) (fun fs hr => retN X44 hx (t := .boolean) Bd.returns (by simp) (hb hby at_209) hr) (by decide) (by decide) ?_
          show Q0 Z p1 p2 p3 p4 a_COMPACT_STRINGS h0 n0 _ T44.heap _
          rw [e44]
          exact ⟨rfl, N44⟩
        · skip
          refine go1 (fun _ => XS.icmpYes X0.here hx rfl (pc0 := 53) (pc' := 66) rfl (hb hby at_53) rfl (feq hc33).2 (by decide) (by decide)) ?_
          show Go p.tables e below s₁ (mkF m 66 #[.val (.int p1), .val (.int p2), .val (.int p3), .val (.int p4), .val (.int ((p1 &&& (2147483647 : Int32)) % (8 : Int32))), .unset, .unset, .unset, .unset] []) _
          refine go1 (fun _ => XS.iload X0.here hx rfl (hb hby at_66) rfl) ?_
          show Go p.tables e below s₁ (mkF m 68 #[.val (.int p1), .val (.int p2), .val (.int p3), .val (.int p4), .val (.int ((p1 &&& (2147483647 : Int32)) % (8 : Int32))), .unset, .unset, .unset, .unset] [(.int ((p1 &&& (2147483647 : Int32)) % (8 : Int32)))]) _
          refine go1 (fun _ => XS.iconst X0.here hx rfl (hb hby at_68)) ?_
          show Go p.tables e below s₁ (mkF m 69 #[.val (.int p1), .val (.int p2), .val (.int p3), .val (.int p4), .val (.int ((p1 &&& (2147483647 : Int32)) % (8 : Int32))), .unset, .unset, .unset, .unset] [(.int (4 : Int32)), (.int ((p1 &&& (2147483647 : Int32)) % (8 : Int32)))]) _
          by_cases hc45 : ((p1 &&& (2147483647 : Int32)) % (8 : Int32)) = (4 : Int32)
          · skip
            refine go1 (fun _ => XS.icmpNo X0.here hx rfl (hb hby at_69) rfl (teq hc45).2) ?_
            show Go p.tables e below s₁ (mkF m 72 #[.val (.int p1), .val (.int p2), .val (.int p3), .val (.int p4), .val (.int ((p1 &&& (2147483647 : Int32)) % (8 : Int32))), .unset, .unset, .unset, .unset] []) _
            refine go1 (fun _ => XS.sipush X0.here hx rfl (hb hby at_72)) ?_
            show Go p.tables e below s₁ (mkF m 75 #[.val (.int p1), .val (.int p2), .val (.int p3), .val (.int p4), .val (.int ((p1 &&& (2147483647 : Int32)) % (8 : Int32))), .unset, .unset, .unset, .unset] [(.int (8192 : Int32))]) _
            obtain ⟨T46, h46, k46, X46, e46, E46, A46, st46⟩ := newP X0 hx hZ (hw _ (List.mem_of_getElem? (i := 1) rfl)) e0 (g := (mkF m 75 #[.val (.int p1), .val (.int p2), .val (.int p3), .val (.int p4), .val (.int ((p1 &&& (2147483647 : Int32)) % (8 : Int32))), .unset, .unset, .unset, .unset] [(.int (8192 : Int32))])) rfl (hb hby at_75) rfl (by decide) (cap := 8192) (by decide) (by decide) (by decide) (by decide)
            obtain ⟨b46, g46⟩ : ∃ z, z = h0.size := ⟨_, rfl⟩
            rw [← g46] at A46 st46
            have g_b46 : n0 ≤ b46 := Nat.le_trans Z0 (Nat.le_of_eq g46.symm)
            have V_b46 : Arv Z h46 b46 k46 .char (8192 : Int32) [] (.int 0) := Arv.new A46 (by decide)
            refine go1 st46 ?_
            show Go p.tables e below T46 (mkF m 77 #[.val (.int p1), .val (.int p2), .val (.int p3), .val (.int p4), .val (.int ((p1 &&& (2147483647 : Int32)) % (8 : Int32))), .unset, .unset, .unset, .unset] [(.ref b46)]) _
            refine go1 (fun _ => XS.astore X46.here hx rfl (hb hby at_77) rfl rfl (l' := #[.val (.int p1), .val (.int p2), .val (.int p3), .val (.int p4), .val (.int ((p1 &&& (2147483647 : Int32)) % (8 : Int32))), .val (.ref b46), .unset, .unset, .unset]) rfl) ?_
            show Go p.tables e below T46 (mkF m 79 #[.val (.int p1), .val (.int p2), .val (.int p3), .val (.int p4), .val (.int ((p1 &&& (2147483647 : Int32)) % (8 : Int32))), .val (.ref b46), .unset, .unset, .unset] []) _
            refine go1 (fun _ => XS.goto X46.here hx rfl (pc0 := 79) (pc' := 122) rfl (hb hby at_79) (by decide) (by decide)) ?_
            show Go p.tables e below T46 (mkF m 122 #[.val (.int p1), .val (.int p2), .val (.int p3), .val (.int p4), .val (.int ((p1 &&& (2147483647 : Int32)) % (8 : Int32))), .val (.ref b46), .unset, .unset, .unset] []) _
            refine go1 (fun _ => XS.aload X46.here hx rfl (hb hby at_122) rfl rfl) ?_
            show Go p.tables e below T46 (mkF m 124 #[.val (.int p1), .val (.int p2), .val (.int p3), .val (.int p4), .val (.int ((p1 &&& (2147483647 : Int32)) % (8 : Int32))), .val (.ref b46), .unset, .unset, .unset] [(.ref b46)]) _
            have vo47 := V_b46
            obtain ⟨cl47, Ar47, -, S47, M47, -, -⟩ := vo47
            refine go1 (T' := T46) (g' := (mkF m 125 #[.val (.int p1), .val (.int p2), .val (.int p3), .val (.int p4), .val (.int ((p1 &&& (2147483647 : Int32)) % (8 : Int32))), .val (.ref b46), .unset, .unset, .unset] [(.int (8192 : Int32))])) (fun t k => ?_) ?_
            · refine X46.arraylength hx (by rw [e46]; exact Ar47.1) (State.isArrayOf_alike hZ.alike Ar47.2.1) (g := (mkF m 124 #[.val (.int p1), .val (.int p2), .val (.int p3), .val (.int p4), .val (.int ((p1 &&& (2147483647 : Int32)) % (8 : Int32))), .val (.ref b46), .unset, .unset, .unset] [(.ref b46)])) rfl rfl (hb hby at_124) _ ?_
              rw [len_of S47 M47]
              exact k
            show Go p.tables e below T46 (mkF m 125 #[.val (.int p1), .val (.int p2), .val (.int p3), .val (.int p4), .val (.int ((p1 &&& (2147483647 : Int32)) % (8 : Int32))), .val (.ref b46), .unset, .unset, .unset] [(.int (8192 : Int32))]) _
            refine go1 (fun _ => XS.istore X46.here hx rfl (hb hby at_125) rfl (l' := #[.val (.int p1), .val (.int p2), .val (.int p3), .val (.int p4), .val (.int ((p1 &&& (2147483647 : Int32)) % (8 : Int32))), .val (.ref b46), .val (.int (8192 : Int32)), .unset, .unset]) rfl) ?_
            show Go p.tables e below T46 (mkF m 127 #[.val (.int p1), .val (.int p2), .val (.int p3), .val (.int p4), .val (.int ((p1 &&& (2147483647 : Int32)) % (8 : Int32))), .val (.ref b46), .val (.int (8192 : Int32)), .unset, .unset] []) _
            refine go1 (fun _ => XS.iload X46.here hx rfl (hb hby at_127) rfl) ?_
            show Go p.tables e below T46 (mkF m 129 #[.val (.int p1), .val (.int p2), .val (.int p3), .val (.int p4), .val (.int ((p1 &&& (2147483647 : Int32)) % (8 : Int32))), .val (.ref b46), .val (.int (8192 : Int32)), .unset, .unset] [(.int (8192 : Int32))]) _
            refine go1 (fun _ => XS.ifNo X46.here hx rfl (hb hby at_129) rfl ((if0 _ _).trans (tlt (by decide : (0 : Int32) < (8192 : Int32))).2.2.2)) ?_
            show Go p.tables e below T46 (mkF m 132 #[.val (.int p1), .val (.int p2), .val (.int p3), .val (.int p4), .val (.int ((p1 &&& (2147483647 : Int32)) % (8 : Int32))), .val (.ref b46), .val (.int (8192 : Int32)), .unset, .unset] []) _
            refine go1 (fun _ => XS.aload X46.here hx rfl (hb hby at_132) rfl rfl) ?_
            show Go p.tables e below T46 (mkF m 134 #[.val (.int p1), .val (.int p2), .val (.int p3), .val (.int p4), .val (.int ((p1 &&& (2147483647 : Int32)) % (8 : Int32))), .val (.ref b46), .val (.int (8192 : Int32)), .unset, .unset] [(.ref b46)]) _
            refine go1 (fun _ => XS.iload X46.here hx rfl (hb hby at_134) rfl) ?_
            show Go p.tables e below T46 (mkF m 136 #[.val (.int p1), .val (.int p2), .val (.int p3), .val (.int p4), .val (.int ((p1 &&& (2147483647 : Int32)) % (8 : Int32))), .val (.ref b46), .val (.int (8192 : Int32)), .unset, .unset] [(.int (8192 : Int32)), (.ref b46)]) _
            refine go1 (fun _ => XS.iconst X46.here hx rfl (hb hby at_136)) ?_
            show Go p.tables e below T46 (mkF m 137 #[.val (.int p1), .val (.int p2), .val (.int p3), .val (.int p4), .val (.int ((p1 &&& (2147483647 : Int32)) % (8 : Int32))), .val (.ref b46), .val (.int (8192 : Int32)), .unset, .unset] [(.int (2 : Int32)), (.int (8192 : Int32)), (.ref b46)]) _
            refine go1 (fun _ => XS.idiv X46.here hx rfl (hb hby at_137) rfl (by decide)) ?_
            show Go p.tables e below T46 (mkF m 138 #[.val (.int p1), .val (.int p2), .val (.int p3), .val (.int p4), .val (.int ((p1 &&& (2147483647 : Int32)) % (8 : Int32))), .val (.ref b46), .val (.int (8192 : Int32)), .unset, .unset] [(.int (4096 : Int32)), (.ref b46)]) _
            refine go1 (fun _ => XS.iloadN X46.here hx rfl (hb hby at_138) rfl) ?_
            show Go p.tables e below T46 (mkF m 139 #[.val (.int p1), .val (.int p2), .val (.int p3), .val (.int p4), .val (.int ((p1 &&& (2147483647 : Int32)) % (8 : Int32))), .val (.ref b46), .val (.int (8192 : Int32)), .unset, .unset] [(.int p3), (.int (4096 : Int32)), (.ref b46)]) _
            refine go1 (fun _ => XS.sipush X46.here hx rfl (hb hby at_139)) ?_
            show Go p.tables e below T46 (mkF m 142 #[.val (.int p1), .val (.int p2), .val (.int p3), .val (.int p4), .val (.int ((p1 &&& (2147483647 : Int32)) % (8 : Int32))), .val (.ref b46), .val (.int (8192 : Int32)), .unset, .unset] [(.int (255 : Int32)), (.int p3), (.int (4096 : Int32)), (.ref b46)]) _
            refine go1 (fun _ => XS.iand X46.here hx rfl (hb hby at_142) rfl) ?_
            show Go p.tables e below T46 (mkF m 143 #[.val (.int p1), .val (.int p2), .val (.int p3), .val (.int p4), .val (.int ((p1 &&& (2147483647 : Int32)) % (8 : Int32))), .val (.ref b46), .val (.int (8192 : Int32)), .unset, .unset] [(.int (p3 &&& (255 : Int32))), (.int (4096 : Int32)), (.ref b46)]) _
            refine go1 (fun _ => XS.i2c X46.here hx rfl (hb hby at_143) rfl) ?_
            show Go p.tables e below T46 (mkF m 144 #[.val (.int p1), .val (.int p2), .val (.int p3), .val (.int p4), .val (.int ((p1 &&& (2147483647 : Int32)) % (8 : Int32))), .val (.ref b46), .val (.int (8192 : Int32)), .unset, .unset] [(.int ((p3 &&& (255 : Int32)).toUInt32.toUInt16.toUInt32.toInt32)), (.int (4096 : Int32)), (.ref b46)]) _
            obtain ⟨va46, Vp46, hlen46, hlat46⟩ := own_arr V_b46
            have vo48 := Vp46
            obtain ⟨cl48, Ar48, q48, S48, M48, H48, G48⟩ := vo48
            have hin48 := inb_of (j := (4096 : Int32)) S48 ⟨by decide, by decide⟩
            obtain ⟨T48, h48, X48, e48, W48, st48⟩ := stC X46 hx hZ e46 Ar48 (j := (4096 : Int32)) hin48 (g := (mkF m 144 #[.val (.int p1), .val (.int p2), .val (.int p3), .val (.int p4), .val (.int ((p1 &&& (2147483647 : Int32)) % (8 : Int32))), .val (.ref b46), .val (.int (8192 : Int32)), .unset, .unset] [(.int ((p3 &&& (255 : Int32)).toUInt32.toUInt16.toUInt32.toInt32)), (.int (4096 : Int32)), (.ref b46)])) rfl rfl (hb hby at_144)
            refine go1 st48 ?_
            have N48 := Fr.snoc X48 N0 g_b46
            have Vq48 : Arv Z h48 b46 k46 .char (8192 : Int32) (va46.set 4096 (.int (nar .char ((p3 &&& (255 : Int32)).toUInt32.toUInt16.toUInt32.toInt32)))) (.int 0) := Arv.set Ar48 q48 S48 M48 H48 G48 (fits_nar_char _) W48 4096 (by decide) (by rw [hlen46]; decide)
            obtain ⟨va48, hva48⟩ : ∃ q, q = (va46.set 4096 (.int (nar .char ((p3 &&& (255 : Int32)).toUInt32.toUInt16.toUInt32.toInt32)))) := ⟨_, rfl⟩
            have hlat48 : LatL va48 := by rw [hva48]; exact LatL.set hlat46 _ _ (own_ch p3)
            have hlen48 : va48.length = ((8192 : Int32)).toNatClampNeg := by rw [hva48, List.length_set]; exact hlen46
            rw [← hva48] at Vq48
            show Go p.tables e below T48 (mkF m 145 #[.val (.int p1), .val (.int p2), .val (.int p3), .val (.int p4), .val (.int ((p1 &&& (2147483647 : Int32)) % (8 : Int32))), .val (.ref b46), .val (.int (8192 : Int32)), .unset, .unset] []) _
            refine go1 (fun _ => XS.aload X48.here hx rfl (hb hby at_145) rfl rfl) ?_
            show Go p.tables e below T48 (mkF m 147 #[.val (.int p1), .val (.int p2), .val (.int p3), .val (.int p4), .val (.int ((p1 &&& (2147483647 : Int32)) % (8 : Int32))), .val (.ref b46), .val (.int (8192 : Int32)), .unset, .unset] [(.ref b46)]) _
            refine go1 (fun _ => XS.iconst X48.here hx rfl (hb hby at_147)) ?_
            show Go p.tables e below T48 (mkF m 148 #[.val (.int p1), .val (.int p2), .val (.int p3), .val (.int p4), .val (.int ((p1 &&& (2147483647 : Int32)) % (8 : Int32))), .val (.ref b46), .val (.int (8192 : Int32)), .unset, .unset] [(.int (0 : Int32)), (.ref b46)]) _
            refine go1 (fun _ => XS.iloadN X48.here hx rfl (hb hby at_148) rfl) ?_
            show Go p.tables e below T48 (mkF m 149 #[.val (.int p1), .val (.int p2), .val (.int p3), .val (.int p4), .val (.int ((p1 &&& (2147483647 : Int32)) % (8 : Int32))), .val (.ref b46), .val (.int (8192 : Int32)), .unset, .unset] [(.int p2), (.int (0 : Int32)), (.ref b46)]) _
            refine go1 (fun _ => XS.sipush X48.here hx rfl (hb hby at_149)) ?_
            show Go p.tables e below T48 (mkF m 152 #[.val (.int p1), .val (.int p2), .val (.int p3), .val (.int p4), .val (.int ((p1 &&& (2147483647 : Int32)) % (8 : Int32))), .val (.ref b46), .val (.int (8192 : Int32)), .unset, .unset] [(.int (255 : Int32)), (.int p2), (.int (0 : Int32)), (.ref b46)]) _
            refine go1 (fun _ => XS.iand X48.here hx rfl (hb hby at_152) rfl) ?_
            show Go p.tables e below T48 (mkF m 153 #[.val (.int p1), .val (.int p2), .val (.int p3), .val (.int p4), .val (.int ((p1 &&& (2147483647 : Int32)) % (8 : Int32))), .val (.ref b46), .val (.int (8192 : Int32)), .unset, .unset] [(.int (p2 &&& (255 : Int32))), (.int (0 : Int32)), (.ref b46)]) _
            refine go1 (fun _ => XS.i2c X48.here hx rfl (hb hby at_153) rfl) ?_
            show Go p.tables e below T48 (mkF m 154 #[.val (.int p1), .val (.int p2), .val (.int p3), .val (.int p4), .val (.int ((p1 &&& (2147483647 : Int32)) % (8 : Int32))), .val (.ref b46), .val (.int (8192 : Int32)), .unset, .unset] [(.int ((p2 &&& (255 : Int32)).toUInt32.toUInt16.toUInt32.toInt32)), (.int (0 : Int32)), (.ref b46)]) _
            have vo49 := Vq48
            obtain ⟨cl49, Ar49, q49, S49, M49, H49, G49⟩ := vo49
            have hin49 := inb_of (j := (0 : Int32)) S49 ⟨by decide, by decide⟩
            obtain ⟨T49, h49, X49, e49, W49, st49⟩ := stC X48 hx hZ e48 Ar49 (j := (0 : Int32)) hin49 (g := (mkF m 154 #[.val (.int p1), .val (.int p2), .val (.int p3), .val (.int p4), .val (.int ((p1 &&& (2147483647 : Int32)) % (8 : Int32))), .val (.ref b46), .val (.int (8192 : Int32)), .unset, .unset] [(.int ((p2 &&& (255 : Int32)).toUInt32.toUInt16.toUInt32.toInt32)), (.int (0 : Int32)), (.ref b46)])) rfl rfl (hb hby at_154)
            refine go1 st49 ?_
            have N49 := Fr.snoc X49 N48 g_b46
            have Vq49 : Arv Z h49 b46 k46 .char (8192 : Int32) (va48.set 0 (.int (nar .char ((p2 &&& (255 : Int32)).toUInt32.toUInt16.toUInt32.toInt32)))) (.int 0) := Arv.set Ar49 q49 S49 M49 H49 G49 (fits_nar_char _) W49 0 (by decide) (by rw [hlen48]; decide)
            obtain ⟨va49, hva49⟩ : ∃ q, q = (va48.set 0 (.int (nar .char ((p2 &&& (255 : Int32)).toUInt32.toUInt16.toUInt32.toInt32)))) := ⟨_, rfl⟩
            have hlat49 : LatL va49 := by rw [hva49]; exact LatL.set hlat48 _ _ (own_ch p2)
            have hlen49 : va49.length = ((8192 : Int32)).toNatClampNeg := by rw [hva49, List.length_set]; exact hlen48
            rw [← hva49] at Vq49
            show Go p.tables e below T49 (mkF m 155 #[.val (.int p1), .val (.int p2), .val (.int p3), .val (.int p4), .val (.int ((p1 &&& (2147483647 : Int32)) % (8 : Int32))), .val (.ref b46), .val (.int (8192 : Int32)), .unset, .unset] []) _
            refine go1 (fun _ => XS.aload X49.here hx rfl (hb hby at_155) rfl rfl) ?_
            show Go p.tables e below T49 (mkF m 157 #[.val (.int p1), .val (.int p2), .val (.int p3), .val (.int p4), .val (.int ((p1 &&& (2147483647 : Int32)) % (8 : Int32))), .val (.ref b46), .val (.int (8192 : Int32)), .unset, .unset] [(.ref b46)]) _
            refine go1 (fun _ => XS.iload X49.here hx rfl (hb hby at_157) rfl) ?_
            show Go p.tables e below T49 (mkF m 159 #[.val (.int p1), .val (.int p2), .val (.int p3), .val (.int p4), .val (.int ((p1 &&& (2147483647 : Int32)) % (8 : Int32))), .val (.ref b46), .val (.int (8192 : Int32)), .unset, .unset] [(.int (8192 : Int32)), (.ref b46)]) _
            refine go1 (fun _ => XS.iconst X49.here hx rfl (hb hby at_159)) ?_
            show Go p.tables e below T49 (mkF m 160 #[.val (.int p1), .val (.int p2), .val (.int p3), .val (.int p4), .val (.int ((p1 &&& (2147483647 : Int32)) % (8 : Int32))), .val (.ref b46), .val (.int (8192 : Int32)), .unset, .unset] [(.int (1 : Int32)), (.int (8192 : Int32)), (.ref b46)]) _
            refine go1 (fun _ => XS.isub X49.here hx rfl (hb hby at_160) rfl) ?_
            show Go p.tables e below T49 (mkF m 161 #[.val (.int p1), .val (.int p2), .val (.int p3), .val (.int p4), .val (.int ((p1 &&& (2147483647 : Int32)) % (8 : Int32))), .val (.ref b46), .val (.int (8192 : Int32)), .unset, .unset] [(.int (8191 : Int32)), (.ref b46)]) _
            refine go1 (fun _ => XS.iloadN X49.here hx rfl (hb hby at_161) rfl) ?_
            show Go p.tables e below T49 (mkF m 162 #[.val (.int p1), .val (.int p2), .val (.int p3), .val (.int p4), .val (.int ((p1 &&& (2147483647 : Int32)) % (8 : Int32))), .val (.ref b46), .val (.int (8192 : Int32)), .unset, .unset] [(.int p4), (.int (8191 : Int32)), (.ref b46)]) _
            refine go1 (fun _ => XS.sipush X49.here hx rfl (hb hby at_162)) ?_
            show Go p.tables e below T49 (mkF m 165 #[.val (.int p1), .val (.int p2), .val (.int p3), .val (.int p4), .val (.int ((p1 &&& (2147483647 : Int32)) % (8 : Int32))), .val (.ref b46), .val (.int (8192 : Int32)), .unset, .unset] [(.int (255 : Int32)), (.int p4), (.int (8191 : Int32)), (.ref b46)]) _
            refine go1 (fun _ => XS.iand X49.here hx rfl (hb hby at_165) rfl) ?_
            show Go p.tables e below T49 (mkF m 166 #[.val (.int p1), .val (.int p2), .val (.int p3), .val (.int p4), .val (.int ((p1 &&& (2147483647 : Int32)) % (8 : Int32))), .val (.ref b46), .val (.int (8192 : Int32)), .unset, .unset] [(.int (p4 &&& (255 : Int32))), (.int (8191 : Int32)), (.ref b46)]) _
            refine go1 (fun _ => XS.i2c X49.here hx rfl (hb hby at_166) rfl) ?_
            show Go p.tables e below T49 (mkF m 167 #[.val (.int p1), .val (.int p2), .val (.int p3), .val (.int p4), .val (.int ((p1 &&& (2147483647 : Int32)) % (8 : Int32))), .val (.ref b46), .val (.int (8192 : Int32)), .unset, .unset] [(.int ((p4 &&& (255 : Int32)).toUInt32.toUInt16.toUInt32.toInt32)), (.int (8191 : Int32)), (.ref b46)]) _
            have vo50 := Vq49
            obtain ⟨cl50, Ar50, q50, S50, M50, H50, G50⟩ := vo50
            have hin50 := inb_of (j := (8191 : Int32)) S50 ⟨by decide, by decide⟩
            obtain ⟨T50, h50, X50, e50, W50, st50⟩ := stC X49 hx hZ e49 Ar50 (j := (8191 : Int32)) hin50 (g := (mkF m 167 #[.val (.int p1), .val (.int p2), .val (.int p3), .val (.int p4), .val (.int ((p1 &&& (2147483647 : Int32)) % (8 : Int32))), .val (.ref b46), .val (.int (8192 : Int32)), .unset, .unset] [(.int ((p4 &&& (255 : Int32)).toUInt32.toUInt16.toUInt32.toInt32)), (.int (8191 : Int32)), (.ref b46)])) rfl rfl (hb hby at_167)
            refine go1 st50 ?_
            have N50 := Fr.snoc X50 N49 g_b46
            have Vq50 : Arv Z h50 b46 k46 .char (8192 : Int32) (va49.set 8191 (.int (nar .char ((p4 &&& (255 : Int32)).toUInt32.toUInt16.toUInt32.toInt32)))) (.int 0) := Arv.set Ar50 q50 S50 M50 H50 G50 (fits_nar_char _) W50 8191 (by decide) (by rw [hlen49]; decide)
            obtain ⟨va50, hva50⟩ : ∃ q, q = (va49.set 8191 (.int (nar .char ((p4 &&& (255 : Int32)).toUInt32.toUInt16.toUInt32.toInt32)))) := ⟨_, rfl⟩
            have hlat50 : LatL va50 := by rw [hva50]; exact LatL.set hlat49 _ _ (own_ch p4)
            have hlen50 : va50.length = ((8192 : Int32)).toNatClampNeg := by rw [hva50, List.length_set]; exact hlen49
            rw [← hva50] at Vq50
            show Go p.tables e below T50 (mkF m 168 #[.val (.int p1), .val (.int p2), .val (.int p3), .val (.int p4), .val (.int ((p1 &&& (2147483647 : Int32)) % (8 : Int32))), .val (.ref b46), .val (.int (8192 : Int32)), .unset, .unset] []) _
            obtain ⟨T51, h51, X51, e51, E51, A51, D51, -, st51⟩ := newO X50 hx hZ hown (hw _ (List.mem_of_getElem? (i := 2) rfl)) (hw _ (List.mem_of_getElem? (i := 3) rfl)) (hw _ (List.mem_of_getElem? (i := 4) rfl)) e50 (g := (mkF m 168 #[.val (.int p1), .val (.int p2), .val (.int p3), .val (.int p4), .val (.int ((p1 &&& (2147483647 : Int32)) % (8 : Int32))), .val (.ref b46), .val (.int (8192 : Int32)), .unset, .unset] [])) rfl (hb hby at_168) (by decide) (by decide)
            obtain ⟨b51, g51⟩ : ∃ z, z = h50.size := ⟨_, rfl⟩
            rw [← g51] at A51 D51 st51
            have g_b51 : n0 ≤ b51 := Nat.le_trans (Nat.le_trans (Nat.le_trans (Nat.le_trans (Nat.le_trans Z0 E46.1) (Keep.of_wr W48).1) (Keep.of_wr W49).1) (Keep.of_wr W50).1) (Nat.le_of_eq g51.symm)
            have F_value_b51 : Fld Z h51 b51 "java/lang/String" "value" "[B" .null := D51 (Or.inr (hw _ (List.mem_of_getElem? (i := 17) rfl))) (ty := (.array .byte)) (by decide)
            have F_coder_b51 : Fld Z h51 b51 "java/lang/String" "coder" "B" (.int (0 : Int32)) := D51 (Or.inr (hw _ (List.mem_of_getElem? (i := 18) rfl))) (ty := .byte) (by decide)
            refine go1 st51 ?_
            show Go p.tables e below T51 (mkF m 171 #[.val (.int p1), .val (.int p2), .val (.int p3), .val (.int p4), .val (.int ((p1 &&& (2147483647 : Int32)) % (8 : Int32))), .val (.ref b46), .val (.int (8192 : Int32)), .unset, .unset] [(.ref b51)]) _
            refine go1 (fun _ => XS.dup X51.here hx rfl (hb hby at_171) rfl rfl) ?_
            show Go p.tables e below T51 (mkF m 172 #[.val (.int p1), .val (.int p2), .val (.int p3), .val (.int p4), .val (.int ((p1 &&& (2147483647 : Int32)) % (8 : Int32))), .val (.ref b46), .val (.int (8192 : Int32)), .unset, .unset] [(.ref b51), (.ref b51)]) _
            refine go1 (fun _ => XS.aload X51.here hx rfl (hb hby at_172) rfl rfl) ?_
            show Go p.tables e below T51 (mkF m 174 #[.val (.int p1), .val (.int p2), .val (.int p3), .val (.int p4), .val (.int ((p1 &&& (2147483647 : Int32)) % (8 : Int32))), .val (.ref b46), .val (.int (8192 : Int32)), .unset, .unset] [(.ref b46), (.ref b51), (.ref b51)]) _
            obtain ⟨_, _, ⟨T52, L52, k52, n52⟩, -, X52, ⟨Lc52, hQ52, l52, y52, z52⟩, st52⟩ := X51.specialBack hx (y := (⟨"java/lang/String", "<init>", "([C)V"⟩ : MethodName)) rfl hown (mvT hZ (hw _ (List.mem_of_getElem? (i := 5) rfl))) (mvT hZ (hw _ (List.mem_of_getElem? (i := 6) rfl))) (mvT hZ (hw _ (List.mem_of_getElem? (i := 7) rfl))) (by decide) (backOf (W := 1) (rm1 l Z a0 hw [] b51 b46 k46 (8192 : Int32) va50 a_COMPACT_STRINGS h51 n0 (Nat.le_trans (Nat.le_trans (Nat.le_trans (Nat.le_trans (Nat.le_trans Z0 E46.1) (Keep.of_wr W48).1) (Keep.of_wr W49).1) (Keep.of_wr W50).1) E51.1) F_value_b51 F_coder_b51 A51 g_b51 (((((O0.ext E46).wr W48 g_b46).wr W49 g_b46).wr W50 g_b46).ext E51) S_COMPACT_STRINGS P_a_COMPACT_STRINGS (Vq50.ext E51) hlat50 (by decide) (Nat.ne_of_lt (Nat.lt_of_lt_of_le Vq50.lt (Nat.le_of_eq g51.symm))) (by decide) (by decide)) hZ (hw _ (List.mem_of_getElem? (i := 7) rfl)) (hw _ (List.mem_of_getElem? (i := 4) rfl)) (by decide) (by decide)) (g := (mkF m 174 #[.val (.int p1), .val (.int p2), .val (.int p3), .val (.int p4), .val (.int ((p1 &&& (2147483647 : Int32)) % (8 : Int32))), .val (.ref b46), .val (.int (8192 : Int32)), .unset, .unset] [(.ref b46), (.ref b51), (.ref b51)])) rfl (by rw [hml]; rfl) (Steps.refl _) (a := b51) (argsL := [(.ref b46)]) (rest := [(.ref b51)]) (lenOf pd0_0 rfl) rfl (by show 2 * 0 + _ ≤ _; exact Nat.le_of_eq rfl) (hb hby at_174) (fun _ _ => ⟨rfl, e51, (by decide : 2 + 1 ≤ _), (by decide : 8196 + 16385 ≤ _)⟩)
            dsimp only [Pt.U, Pt.locs, Pt.cells, Pt.slots] at X52 l52 y52 z52 st52 hQ52
            subst l52 y52 z52
            obtain ⟨t53, kt54, vt55, rfl, N52q, K52, G52_0, G52_1, G52_2, G52_3⟩ := hQ52
            have N52 := Fr.app N50 N52q
            refine goT st52 ?_
            show Go p.tables e below T52 (mkF m 177 #[.val (.int p1), .val (.int p2), .val (.int p3), .val (.int p4), .val (.int ((p1 &&& (2147483647 : Int32)) % (8 : Int32))), .val (.ref b46), .val (.int (8192 : Int32)), .unset, .unset] [(.ref b51)]) _
            refine go1 (fun _ => XS.astore X52.here hx rfl (hb hby at_177) rfl rfl (l' := #[.val (.int p1), .val (.int p2), .val (.int p3), .val (.int p4), .val (.int ((p1 &&& (2147483647 : Int32)) % (8 : Int32))), .val (.ref b46), .val (.int (8192 : Int32)), .val (.ref b51), .unset]) rfl) ?_
            show Go p.tables e below T52 (mkF m 179 #[.val (.int p1), .val (.int p2), .val (.int p3), .val (.int p4), .val (.int ((p1 &&& (2147483647 : Int32)) % (8 : Int32))), .val (.ref b46), .val (.int (8192 : Int32)), .val (.ref b51), .unset] []) _
            refine go1 (fun _ => XS.iload X52.here hx rfl (hb hby at_179) rfl) ?_
            show Go p.tables e below T52 (mkF m 181 #[.val (.int p1), .val (.int p2), .val (.int p3), .val (.int p4), .val (.int ((p1 &&& (2147483647 : Int32)) % (8 : Int32))), .val (.ref b46), .val (.int (8192 : Int32)), .val (.ref b51), .unset] [(.int (8192 : Int32))]) _
            refine go1 (fun _ => XS.sipush X52.here hx rfl (hb hby at_181)) ?_
            show Go p.tables e below T52 (mkF m 184 #[.val (.int p1), .val (.int p2), .val (.int p3), .val (.int p4), .val (.int ((p1 &&& (2147483647 : Int32)) % (8 : Int32))), .val (.ref b46), .val (.int (8192 : Int32)), .val (.ref b51), .unset] [(.int (8192 : Int32)), (.int (8192 : Int32))]) _
            refine go1 (fun _ => XS.icmpYes X52.here hx rfl (pc0 := 184) (pc' := 191) rfl (hb hby at_184) rfl (flt (by decide : ¬ ((8192 : Int32) < (8192 : Int32)))).2.2.2 (by decide) (by decide)) ?_
            show Go p.tables e below T52 (mkF m 191 #[.val (.int p1), .val (.int p2), .val (.int p3), .val (.int p4), .val (.int ((p1 &&& (2147483647 : Int32)) % (8 : Int32))), .val (.ref b46), .val (.int (8192 : Int32)), .val (.ref b51), .unset] []) _
            refine go1 (fun _ => XS.iconst X52.here hx rfl (hb hby at_191)) ?_
            show Go p.tables e below T52 (mkF m 192 #[.val (.int p1), .val (.int p2), .val (.int p3), .val (.int p4), .val (.int ((p1 &&& (2147483647 : Int32)) % (8 : Int32))), .val (.ref b46), .val (.int (8192 : Int32)), .val (.ref b51), .unset] [(.int (0 : Int32))]) _
            refine go1 (fun _ => XS.istore X52.here hx rfl (hb hby at_192) rfl (l' := #[.val (.int p1), .val (.int p2), .val (.int p3), .val (.int p4), .val (.int ((p1 &&& (2147483647 : Int32)) % (8 : Int32))), .val (.ref b46), .val (.int (8192 : Int32)), .val (.ref b51), .val (.int (0 : Int32))]) rfl) ?_
            show Go p.tables e below T52 (mkF m 194 #[.val (.int p1), .val (.int p2), .val (.int p3), .val (.int p4), .val (.int ((p1 &&& (2147483647 : Int32)) % (8 : Int32))), .val (.ref b46), .val (.int (8192 : Int32)), .val (.ref b51), .val (.int (0 : Int32))] []) _
            refine go1 (fun _ => XS.aload X52.here hx rfl (hb hby at_194) rfl rfl) ?_
            show Go p.tables e below T52 (mkF m 196 #[.val (.int p1), .val (.int p2), .val (.int p3), .val (.int p4), .val (.int ((p1 &&& (2147483647 : Int32)) % (8 : Int32))), .val (.ref b46), .val (.int (8192 : Int32)), .val (.ref b51), .val (.int (0 : Int32))] [(.ref b51)]) _
            obtain ⟨_, _, ⟨T56, L56, k56, n56⟩, -, X56, ⟨Lc56, hQ56, l56, y56, z56⟩, st56⟩ := Jvm.LawKit.callS X52 hx (y := (⟨"com/example/under50k/under50k/SitemapReader", "isCut", "(Ljava/lang/String;)Z"⟩ : MethodName)) hown (mvT hZ (hw _ (List.mem_of_getElem? (i := 23) rfl))) (mvT hZ (hw _ (List.mem_of_getElem? (i := 24) rfl))) (mvT hZ (hw _ (List.mem_of_getElem? (i := 25) rfl))) (mvT hZ (hw _ (List.mem_of_getElem? (i := 26) rfl))) (by decide) (backOf (W := 0) (rm4 l Z a0 hw [] b51 t53 kt54 (8192 : Int32) vt55 a_COMPACT_STRINGS T52.heap n0 (Nat.le_trans (Nat.le_trans (Nat.le_trans (Nat.le_trans (Nat.le_trans (Nat.le_trans Z0 E46.1) (Keep.of_wr W48).1) (Keep.of_wr W49).1) (Keep.of_wr W50).1) E51.1) K52.1) ((((((O0.ext E46).wr W48 g_b46).wr W49 g_b46).wr W50 g_b46).ext E51).keep K52 (allS g_b51 all0)) S_COMPACT_STRINGS P_a_COMPACT_STRINGS G52_1 G52_2 G52_3 G52_0) hZ (hw _ (List.mem_of_getElem? (i := 26) rfl)) (hw _ (List.mem_of_getElem? (i := 25) rfl)) (by decide) (by decide)) (g := (mkF m 196 #[.val (.int p1), .val (.int p2), .val (.int p3), .val (.int p4), .val (.int ((p1 &&& (2147483647 : Int32)) % (8 : Int32))), .val (.ref b46), .val (.int (8192 : Int32)), .val (.ref b51), .val (.int (0 : Int32))] [(.ref b51)])) rfl (by rw [hml]; rfl) (argsL := [(.ref b51)]) (rest := []) (lenOf pd0_1 rfl) rfl (by show 2 * 0 + _ ≤ _; exact Nat.le_of_eq rfl) (hb hby at_196) (fun _ _ => ⟨rfl, rfl, (by decide : 3 + 0 ≤ _), (by decide : 24581 + 0 ≤ _)⟩)
            dsimp only [Pt.U, Pt.locs, Pt.cells, Pt.slots] at X56 l56 y56 z56 st56 hQ56
            subst l56 y56 z56
            obtain ⟨rfl, N56q, e56⟩ := hQ56
            have N56 := Fr.app N52 N56q
            refine go1 st56 ?_
            show Go p.tables e below T56 (mkF m 199 #[.val (.int p1), .val (.int p2), .val (.int p3), .val (.int p4), .val (.int ((p1 &&& (2147483647 : Int32)) % (8 : Int32))), .val (.ref b46), .val (.int (8192 : Int32)), .val (.ref b51), .val (.int (0 : Int32))] [(.int (own_4 (8192 : Int32)))]) _
            refine go1 (fun _ => XS.iload X56.here hx rfl (hb hby at_199) rfl) ?_
            show Go p.tables e below T56 (mkF m 201 #[.val (.int p1), .val (.int p2), .val (.int p3), .val (.int p4), .val (.int ((p1 &&& (2147483647 : Int32)) % (8 : Int32))), .val (.ref b46), .val (.int (8192 : Int32)), .val (.ref b51), .val (.int (0 : Int32))] [(.int (0 : Int32)), (.int (own_4 (8192 : Int32)))]) _
            refine go1 (fun _ => XS.icmpNo X56.here hx rfl (hb hby at_201) rfl (teq (by decide)).2) ?_
            show Go p.tables e below T56 (mkF m 204 #[.val (.int p1), .val (.int p2), .val (.int p3), .val (.int p4), .val (.int ((p1 &&& (2147483647 : Int32)) % (8 : Int32))), .val (.ref b46), .val (.int (8192 : Int32)), .val (.ref b51), .val (.int (0 : Int32))] []) _
            refine go1 (fun _ => XS.iconst X56.here hx rfl (hb hby at_204)) ?_
            show Go p.tables e below T56 (mkF m 205 #[.val (.int p1), .val (.int p2), .val (.int p3), .val (.int p4), .val (.int ((p1 &&& (2147483647 : Int32)) % (8 : Int32))), .val (.ref b46), .val (.int (8192 : Int32)), .val (.ref b51), .val (.int (0 : Int32))] [(.int (1 : Int32))]) _
            refine go1 (fun _ => XS.goto X56.here hx rfl (pc0 := 205) (pc' := 209) rfl (hb hby at_205) (by decide) (by decide)) ?_
            show Go p.tables e below T56 (mkF m 209 #[.val (.int p1), .val (.int p2), .val (.int p3), .val (.int p4), .val (.int ((p1 &&& (2147483647 : Int32)) % (8 : Int32))), .val (.ref b46), .val (.int (8192 : Int32)), .val (.ref b51), .val (.int (0 : Int32))] [(.int (1 : Int32))]) _
            refine goRW (s := s) (vm₁ := s.vm) X56 hS0 (by rw [e56]; exact (Nat.le_trans (Nat.le_trans (Nat.le_trans (Nat.le_trans (Nat.le_trans (Nat.le_trans (Nat.zero_le _) E46.1) (Keep.of_wr W48).1) (Keep.of_wr W49).1) (Keep.of_wr W50).1) E51.1) K52.1)) (BodyLoose.notSynchronized Bd) (v := (some (.int (1 : Int32)))) (fun h => by rw [Bd.returns] at h; cases h) (Q0 Z p1 p2 p3 p4 a_COMPACT_STRINGS h0 n0) (fun fs hr => retN X56 hx (t := .boolean) Bd.returns (by simp) (hb hby at_209) hr) (by decide) (by decide) ?_
            show Q0 Z p1 p2 p3 p4 a_COMPACT_STRINGS h0 n0 _ T56.heap _
            rw [e56]
            exact ⟨rfl, N56⟩
          · skip
            refine go1 (fun _ => XS.icmpYes X0.here hx rfl (pc0 := 69) (pc' := 82) rfl (hb hby at_69) rfl (feq hc45).2 (by decide) (by decide)) ?_
            show Go p.tables e below s₁ (mkF m 82 #[.val (.int p1), .val (.int p2), .val (.int p3), .val (.int p4), .val (.int ((p1 &&& (2147483647 : Int32)) % (8 : Int32))), .unset, .unset, .unset, .unset] []) _
            refine go1 (fun _ => XS.iload X0.here hx rfl (hb hby at_82) rfl) ?_
            show Go p.tables e below s₁ (mkF m 84 #[.val (.int p1), .val (.int p2), .val (.int p3), .val (.int p4), .val (.int ((p1 &&& (2147483647 : Int32)) % (8 : Int32))), .unset, .unset, .unset, .unset] [(.int ((p1 &&& (2147483647 : Int32)) % (8 : Int32)))]) _
            refine go1 (fun _ => XS.iconst X0.here hx rfl (hb hby at_84)) ?_
            show Go p.tables e below s₁ (mkF m 85 #[.val (.int p1), .val (.int p2), .val (.int p3), .val (.int p4), .val (.int ((p1 &&& (2147483647 : Int32)) % (8 : Int32))), .unset, .unset, .unset, .unset] [(.int (5 : Int32)), (.int ((p1 &&& (2147483647 : Int32)) % (8 : Int32)))]) _
            by_cases hc57 : ((p1 &&& (2147483647 : Int32)) % (8 : Int32)) = (5 : Int32)
            · skip
              refine go1 (fun _ => XS.icmpNo X0.here hx rfl (hb hby at_85) rfl (teq hc57).2) ?_
              show Go p.tables e below s₁ (mkF m 88 #[.val (.int p1), .val (.int p2), .val (.int p3), .val (.int p4), .val (.int ((p1 &&& (2147483647 : Int32)) % (8 : Int32))), .unset, .unset, .unset, .unset] []) _
              refine go1 (fun _ => XS.sipush X0.here hx rfl (hb hby at_88)) ?_
              show Go p.tables e below s₁ (mkF m 91 #[.val (.int p1), .val (.int p2), .val (.int p3), .val (.int p4), .val (.int ((p1 &&& (2147483647 : Int32)) % (8 : Int32))), .unset, .unset, .unset, .unset] [(.int (8193 : Int32))]) _
              obtain ⟨T58, h58, k58, X58, e58, E58, A58, st58⟩ := newP X0 hx hZ (hw _ (List.mem_of_getElem? (i := 1) rfl)) e0 (g := (mkF m 91 #[.val (.int p1), .val (.int p2), .val (.int p3), .val (.int p4), .val (.int ((p1 &&& (2147483647 : Int32)) % (8 : Int32))), .unset, .unset, .unset, .unset] [(.int (8193 : Int32))])) rfl (hb hby at_91) rfl (by decide) (cap := 8193) (by decide) (by decide) (by decide) (by decide)
              obtain ⟨b58, g58⟩ : ∃ z, z = h0.size := ⟨_, rfl⟩
              rw [← g58] at A58 st58
              have g_b58 : n0 ≤ b58 := Nat.le_trans Z0 (Nat.le_of_eq g58.symm)
              have V_b58 : Arv Z h58 b58 k58 .char (8193 : Int32) [] (.int 0) := Arv.new A58 (by decide)
              refine go1 st58 ?_
              show Go p.tables e below T58 (mkF m 93 #[.val (.int p1), .val (.int p2), .val (.int p3), .val (.int p4), .val (.int ((p1 &&& (2147483647 : Int32)) % (8 : Int32))), .unset, .unset, .unset, .unset] [(.ref b58)]) _
              refine go1 (fun _ => XS.astore X58.here hx rfl (hb hby at_93) rfl rfl (l' := #[.val (.int p1), .val (.int p2), .val (.int p3), .val (.int p4), .val (.int ((p1 &&& (2147483647 : Int32)) % (8 : Int32))), .val (.ref b58), .unset, .unset, .unset]) rfl) ?_
              show Go p.tables e below T58 (mkF m 95 #[.val (.int p1), .val (.int p2), .val (.int p3), .val (.int p4), .val (.int ((p1 &&& (2147483647 : Int32)) % (8 : Int32))), .val (.ref b58), .unset, .unset, .unset] []) _
              refine go1 (fun _ => XS.goto X58.here hx rfl (pc0 := 95) (pc' := 122) rfl (hb hby at_95) (by decide) (by decide)) ?_
              show Go p.tables e below T58 (mkF m 122 #[.val (.int p1), .val (.int p2), .val (.int p3), .val (.int p4), .val (.int ((p1 &&& (2147483647 : Int32)) % (8 : Int32))), .val (.ref b58), .unset, .unset, .unset] []) _
              refine go1 (fun _ => XS.aload X58.here hx rfl (hb hby at_122) rfl rfl) ?_
              show Go p.tables e below T58 (mkF m 124 #[.val (.int p1), .val (.int p2), .val (.int p3), .val (.int p4), .val (.int ((p1 &&& (2147483647 : Int32)) % (8 : Int32))), .val (.ref b58), .unset, .unset, .unset] [(.ref b58)]) _
              have vo59 := V_b58
              obtain ⟨cl59, Ar59, -, S59, M59, -, -⟩ := vo59
              refine go1 (T' := T58) (g' := (mkF m 125 #[.val (.int p1), .val (.int p2), .val (.int p3), .val (.int p4), .val (.int ((p1 &&& (2147483647 : Int32)) % (8 : Int32))), .val (.ref b58), .unset, .unset, .unset] [(.int (8193 : Int32))])) (fun t k => ?_) ?_
              · refine X58.arraylength hx (by rw [e58]; exact Ar59.1) (State.isArrayOf_alike hZ.alike Ar59.2.1) (g := (mkF m 124 #[.val (.int p1), .val (.int p2), .val (.int p3), .val (.int p4), .val (.int ((p1 &&& (2147483647 : Int32)) % (8 : Int32))), .val (.ref b58), .unset, .unset, .unset] [(.ref b58)])) rfl rfl (hb hby at_124) _ ?_
                rw [len_of S59 M59]
                exact k
              show Go p.tables e below T58 (mkF m 125 #[.val (.int p1), .val (.int p2), .val (.int p3), .val (.int p4), .val (.int ((p1 &&& (2147483647 : Int32)) % (8 : Int32))), .val (.ref b58), .unset, .unset, .unset] [(.int (8193 : Int32))]) _
              refine go1 (fun _ => XS.istore X58.here hx rfl (hb hby at_125) rfl (l' := #[.val (.int p1), .val (.int p2), .val (.int p3), .val (.int p4), .val (.int ((p1 &&& (2147483647 : Int32)) % (8 : Int32))), .val (.ref b58), .val (.int (8193 : Int32)), .unset, .unset]) rfl) ?_
              show Go p.tables e below T58 (mkF m 127 #[.val (.int p1), .val (.int p2), .val (.int p3), .val (.int p4), .val (.int ((p1 &&& (2147483647 : Int32)) % (8 : Int32))), .val (.ref b58), .val (.int (8193 : Int32)), .unset, .unset] []) _
              refine go1 (fun _ => XS.iload X58.here hx rfl (hb hby at_127) rfl) ?_
              show Go p.tables e below T58 (mkF m 129 #[.val (.int p1), .val (.int p2), .val (.int p3), .val (.int p4), .val (.int ((p1 &&& (2147483647 : Int32)) % (8 : Int32))), .val (.ref b58), .val (.int (8193 : Int32)), .unset, .unset] [(.int (8193 : Int32))]) _
              refine go1 (fun _ => XS.ifNo X58.here hx rfl (hb hby at_129) rfl ((if0 _ _).trans (tlt (by decide : (0 : Int32) < (8193 : Int32))).2.2.2)) ?_
              show Go p.tables e below T58 (mkF m 132 #[.val (.int p1), .val (.int p2), .val (.int p3), .val (.int p4), .val (.int ((p1 &&& (2147483647 : Int32)) % (8 : Int32))), .val (.ref b58), .val (.int (8193 : Int32)), .unset, .unset] []) _
              refine go1 (fun _ => XS.aload X58.here hx rfl (hb hby at_132) rfl rfl) ?_
              show Go p.tables e below T58 (mkF m 134 #[.val (.int p1), .val (.int p2), .val (.int p3), .val (.int p4), .val (.int ((p1 &&& (2147483647 : Int32)) % (8 : Int32))), .val (.ref b58), .val (.int (8193 : Int32)), .unset, .unset] [(.ref b58)]) _
              refine go1 (fun _ => XS.iload X58.here hx rfl (hb hby at_134) rfl) ?_
              show Go p.tables e below T58 (mkF m 136 #[.val (.int p1), .val (.int p2), .val (.int p3), .val (.int p4), .val (.int ((p1 &&& (2147483647 : Int32)) % (8 : Int32))), .val (.ref b58), .val (.int (8193 : Int32)), .unset, .unset] [(.int (8193 : Int32)), (.ref b58)]) _
              refine go1 (fun _ => XS.iconst X58.here hx rfl (hb hby at_136)) ?_
              show Go p.tables e below T58 (mkF m 137 #[.val (.int p1), .val (.int p2), .val (.int p3), .val (.int p4), .val (.int ((p1 &&& (2147483647 : Int32)) % (8 : Int32))), .val (.ref b58), .val (.int (8193 : Int32)), .unset, .unset] [(.int (2 : Int32)), (.int (8193 : Int32)), (.ref b58)]) _
              refine go1 (fun _ => XS.idiv X58.here hx rfl (hb hby at_137) rfl (by decide)) ?_
              show Go p.tables e below T58 (mkF m 138 #[.val (.int p1), .val (.int p2), .val (.int p3), .val (.int p4), .val (.int ((p1 &&& (2147483647 : Int32)) % (8 : Int32))), .val (.ref b58), .val (.int (8193 : Int32)), .unset, .unset] [(.int (4096 : Int32)), (.ref b58)]) _
              refine go1 (fun _ => XS.iloadN X58.here hx rfl (hb hby at_138) rfl) ?_
              show Go p.tables e below T58 (mkF m 139 #[.val (.int p1), .val (.int p2), .val (.int p3), .val (.int p4), .val (.int ((p1 &&& (2147483647 : Int32)) % (8 : Int32))), .val (.ref b58), .val (.int (8193 : Int32)), .unset, .unset] [(.int p3), (.int (4096 : Int32)), (.ref b58)]) _
              refine go1 (fun _ => XS.sipush X58.here hx rfl (hb hby at_139)) ?_
              show Go p.tables e below T58 (mkF m 142 #[.val (.int p1), .val (.int p2), .val (.int p3), .val (.int p4), .val (.int ((p1 &&& (2147483647 : Int32)) % (8 : Int32))), .val (.ref b58), .val (.int (8193 : Int32)), .unset, .unset] [(.int (255 : Int32)), (.int p3), (.int (4096 : Int32)), (.ref b58)]) _
              refine go1 (fun _ => XS.iand X58.here hx rfl (hb hby at_142) rfl) ?_
              show Go p.tables e below T58 (mkF m 143 #[.val (.int p1), .val (.int p2), .val (.int p3), .val (.int p4), .val (.int ((p1 &&& (2147483647 : Int32)) % (8 : Int32))), .val (.ref b58), .val (.int (8193 : Int32)), .unset, .unset] [(.int (p3 &&& (255 : Int32))), (.int (4096 : Int32)), (.ref b58)]) _
              refine go1 (fun _ => XS.i2c X58.here hx rfl (hb hby at_143) rfl) ?_
              show Go p.tables e below T58 (mkF m 144 #[.val (.int p1), .val (.int p2), .val (.int p3), .val (.int p4), .val (.int ((p1 &&& (2147483647 : Int32)) % (8 : Int32))), .val (.ref b58), .val (.int (8193 : Int32)), .unset, .unset] [(.int ((p3 &&& (255 : Int32)).toUInt32.toUInt16.toUInt32.toInt32)), (.int (4096 : Int32)), (.ref b58)]) _
              obtain ⟨va58, Vp58, hlen58, hlat58⟩ := own_arr V_b58
              have vo60 := Vp58
              obtain ⟨cl60, Ar60, q60, S60, M60, H60, G60⟩ := vo60
              have hin60 := inb_of (j := (4096 : Int32)) S60 ⟨by decide, by decide⟩
              obtain ⟨T60, h60, X60, e60, W60, st60⟩ := stC X58 hx hZ e58 Ar60 (j := (4096 : Int32)) hin60 (g := (mkF m 144 #[.val (.int p1), .val (.int p2), .val (.int p3), .val (.int p4), .val (.int ((p1 &&& (2147483647 : Int32)) % (8 : Int32))), .val (.ref b58), .val (.int (8193 : Int32)), .unset, .unset] [(.int ((p3 &&& (255 : Int32)).toUInt32.toUInt16.toUInt32.toInt32)), (.int (4096 : Int32)), (.ref b58)])) rfl rfl (hb hby at_144)
              refine go1 st60 ?_
              have N60 := Fr.snoc X60 N0 g_b58
              have Vq60 : Arv Z h60 b58 k58 .char (8193 : Int32) (va58.set 4096 (.int (nar .char ((p3 &&& (255 : Int32)).toUInt32.toUInt16.toUInt32.toInt32)))) (.int 0) := Arv.set Ar60 q60 S60 M60 H60 G60 (fits_nar_char _) W60 4096 (by decide) (by rw [hlen58]; decide)
              obtain ⟨va60, hva60⟩ : ∃ q, q = (va58.set 4096 (.int (nar .char ((p3 &&& (255 : Int32)).toUInt32.toUInt16.toUInt32.toInt32)))) := ⟨_, rfl⟩
              have hlat60 : LatL va60 := by rw [hva60]; exact LatL.set hlat58 _ _ (own_ch p3)
              have hlen60 : va60.length = ((8193 : Int32)).toNatClampNeg := by rw [hva60, List.length_set]; exact hlen58
              rw [← hva60] at Vq60
              show Go p.tables e below T60 (mkF m 145 #[.val (.int p1), .val (.int p2), .val (.int p3), .val (.int p4), .val (.int ((p1 &&& (2147483647 : Int32)) % (8 : Int32))), .val (.ref b58), .val (.int (8193 : Int32)), .unset, .unset] []) _
              refine go1 (fun _ => XS.aload X60.here hx rfl (hb hby at_145) rfl rfl) ?_
              show Go p.tables e below T60 (mkF m 147 #[.val (.int p1), .val (.int p2), .val (.int p3), .val (.int p4), .val (.int ((p1 &&& (2147483647 : Int32)) % (8 : Int32))), .val (.ref b58), .val (.int (8193 : Int32)), .unset, .unset] [(.ref b58)]) _
              refine go1 (fun _ => XS.iconst X60.here hx rfl (hb hby at_147)) ?_
              show Go p.tables e below T60 (mkF m 148 #[.val (.int p1), .val (.int p2), .val (.int p3), .val (.int p4), .val (.int ((p1 &&& (2147483647 : Int32)) % (8 : Int32))), .val (.ref b58), .val (.int (8193 : Int32)), .unset, .unset] [(.int (0 : Int32)), (.ref b58)]) _
              refine go1 (fun _ => XS.iloadN X60.here hx rfl (hb hby at_148) rfl) ?_
              show Go p.tables e below T60 (mkF m 149 #[.val (.int p1), .val (.int p2), .val (.int p3), .val (.int p4), .val (.int ((p1 &&& (2147483647 : Int32)) % (8 : Int32))), .val (.ref b58), .val (.int (8193 : Int32)), .unset, .unset] [(.int p2), (.int (0 : Int32)), (.ref b58)]) _
              refine go1 (fun _ => XS.sipush X60.here hx rfl (hb hby at_149)) ?_
              show Go p.tables e below T60 (mkF m 152 #[.val (.int p1), .val (.int p2), .val (.int p3), .val (.int p4), .val (.int ((p1 &&& (2147483647 : Int32)) % (8 : Int32))), .val (.ref b58), .val (.int (8193 : Int32)), .unset, .unset] [(.int (255 : Int32)), (.int p2), (.int (0 : Int32)), (.ref b58)]) _
              refine go1 (fun _ => XS.iand X60.here hx rfl (hb hby at_152) rfl) ?_
              show Go p.tables e below T60 (mkF m 153 #[.val (.int p1), .val (.int p2), .val (.int p3), .val (.int p4), .val (.int ((p1 &&& (2147483647 : Int32)) % (8 : Int32))), .val (.ref b58), .val (.int (8193 : Int32)), .unset, .unset] [(.int (p2 &&& (255 : Int32))), (.int (0 : Int32)), (.ref b58)]) _
              refine go1 (fun _ => XS.i2c X60.here hx rfl (hb hby at_153) rfl) ?_
              show Go p.tables e below T60 (mkF m 154 #[.val (.int p1), .val (.int p2), .val (.int p3), .val (.int p4), .val (.int ((p1 &&& (2147483647 : Int32)) % (8 : Int32))), .val (.ref b58), .val (.int (8193 : Int32)), .unset, .unset] [(.int ((p2 &&& (255 : Int32)).toUInt32.toUInt16.toUInt32.toInt32)), (.int (0 : Int32)), (.ref b58)]) _
              have vo61 := Vq60
              obtain ⟨cl61, Ar61, q61, S61, M61, H61, G61⟩ := vo61
              have hin61 := inb_of (j := (0 : Int32)) S61 ⟨by decide, by decide⟩
              obtain ⟨T61, h61, X61, e61, W61, st61⟩ := stC X60 hx hZ e60 Ar61 (j := (0 : Int32)) hin61 (g := (mkF m 154 #[.val (.int p1), .val (.int p2), .val (.int p3), .val (.int p4), .val (.int ((p1 &&& (2147483647 : Int32)) % (8 : Int32))), .val (.ref b58), .val (.int (8193 : Int32)), .unset, .unset] [(.int ((p2 &&& (255 : Int32)).toUInt32.toUInt16.toUInt32.toInt32)), (.int (0 : Int32)), (.ref b58)])) rfl rfl (hb hby at_154)
              refine go1 st61 ?_
              have N61 := Fr.snoc X61 N60 g_b58
              have Vq61 : Arv Z h61 b58 k58 .char (8193 : Int32) (va60.set 0 (.int (nar .char ((p2 &&& (255 : Int32)).toUInt32.toUInt16.toUInt32.toInt32)))) (.int 0) := Arv.set Ar61 q61 S61 M61 H61 G61 (fits_nar_char _) W61 0 (by decide) (by rw [hlen60]; decide)
              obtain ⟨va61, hva61⟩ : ∃ q, q = (va60.set 0 (.int (nar .char ((p2 &&& (255 : Int32)).toUInt32.toUInt16.toUInt32.toInt32)))) := ⟨_, rfl⟩
              have hlat61 : LatL va61 := by rw [hva61]; exact LatL.set hlat60 _ _ (own_ch p2)
              have hlen61 : va61.length = ((8193 : Int32)).toNatClampNeg := by rw [hva61, List.length_set]; exact hlen60
              rw [← hva61] at Vq61
              show Go p.tables e below T61 (mkF m 155 #[.val (.int p1), .val (.int p2), .val (.int p3), .val (.int p4), .val (.int ((p1 &&& (2147483647 : Int32)) % (8 : Int32))), .val (.ref b58), .val (.int (8193 : Int32)), .unset, .unset] []) _
              refine go1 (fun _ => XS.aload X61.here hx rfl (hb hby at_155) rfl rfl) ?_
              show Go p.tables e below T61 (mkF m 157 #[.val (.int p1), .val (.int p2), .val (.int p3), .val (.int p4), .val (.int ((p1 &&& (2147483647 : Int32)) % (8 : Int32))), .val (.ref b58), .val (.int (8193 : Int32)), .unset, .unset] [(.ref b58)]) _
              refine go1 (fun _ => XS.iload X61.here hx rfl (hb hby at_157) rfl) ?_
              show Go p.tables e below T61 (mkF m 159 #[.val (.int p1), .val (.int p2), .val (.int p3), .val (.int p4), .val (.int ((p1 &&& (2147483647 : Int32)) % (8 : Int32))), .val (.ref b58), .val (.int (8193 : Int32)), .unset, .unset] [(.int (8193 : Int32)), (.ref b58)]) _
              refine go1 (fun _ => XS.iconst X61.here hx rfl (hb hby at_159)) ?_
              show Go p.tables e below T61 (mkF m 160 #[.val (.int p1), .val (.int p2), .val (.int p3), .val (.int p4), .val (.int ((p1 &&& (2147483647 : Int32)) % (8 : Int32))), .val (.ref b58), .val (.int (8193 : Int32)), .unset, .unset] [(.int (1 : Int32)), (.int (8193 : Int32)), (.ref b58)]) _
              refine go1 (fun _ => XS.isub X61.here hx rfl (hb hby at_160) rfl) ?_
              show Go p.tables e below T61 (mkF m 161 #[.val (.int p1), .val (.int p2), .val (.int p3), .val (.int p4), .val (.int ((p1 &&& (2147483647 : Int32)) % (8 : Int32))), .val (.ref b58), .val (.int (8193 : Int32)), .unset, .unset] [(.int (8192 : Int32)), (.ref b58)]) _
              refine go1 (fun _ => XS.iloadN X61.here hx rfl (hb hby at_161) rfl) ?_
              show Go p.tables e below T61 (mkF m 162 #[.val (.int p1), .val (.int p2), .val (.int p3), .val (.int p4), .val (.int ((p1 &&& (2147483647 : Int32)) % (8 : Int32))), .val (.ref b58), .val (.int (8193 : Int32)), .unset, .unset] [(.int p4), (.int (8192 : Int32)), (.ref b58)]) _
              refine go1 (fun _ => XS.sipush X61.here hx rfl (hb hby at_162)) ?_
              show Go p.tables e below T61 (mkF m 165 #[.val (.int p1), .val (.int p2), .val (.int p3), .val (.int p4), .val (.int ((p1 &&& (2147483647 : Int32)) % (8 : Int32))), .val (.ref b58), .val (.int (8193 : Int32)), .unset, .unset] [(.int (255 : Int32)), (.int p4), (.int (8192 : Int32)), (.ref b58)]) _
              refine go1 (fun _ => XS.iand X61.here hx rfl (hb hby at_165) rfl) ?_
              show Go p.tables e below T61 (mkF m 166 #[.val (.int p1), .val (.int p2), .val (.int p3), .val (.int p4), .val (.int ((p1 &&& (2147483647 : Int32)) % (8 : Int32))), .val (.ref b58), .val (.int (8193 : Int32)), .unset, .unset] [(.int (p4 &&& (255 : Int32))), (.int (8192 : Int32)), (.ref b58)]) _
              refine go1 (fun _ => XS.i2c X61.here hx rfl (hb hby at_166) rfl) ?_
              show Go p.tables e below T61 (mkF m 167 #[.val (.int p1), .val (.int p2), .val (.int p3), .val (.int p4), .val (.int ((p1 &&& (2147483647 : Int32)) % (8 : Int32))), .val (.ref b58), .val (.int (8193 : Int32)), .unset, .unset] [(.int ((p4 &&& (255 : Int32)).toUInt32.toUInt16.toUInt32.toInt32)), (.int (8192 : Int32)), (.ref b58)]) _
              have vo62 := Vq61
              obtain ⟨cl62, Ar62, q62, S62, M62, H62, G62⟩ := vo62
              have hin62 := inb_of (j := (8192 : Int32)) S62 ⟨by decide, by decide⟩
              obtain ⟨T62, h62, X62, e62, W62, st62⟩ := stC X61 hx hZ e61 Ar62 (j := (8192 : Int32)) hin62 (g := (mkF m 167 #[.val (.int p1), .val (.int p2), .val (.int p3), .val (.int p4), .val (.int ((p1 &&& (2147483647 : Int32)) % (8 : Int32))), .val (.ref b58), .val (.int (8193 : Int32)), .unset, .unset] [(.int ((p4 &&& (255 : Int32)).toUInt32.toUInt16.toUInt32.toInt32)), (.int (8192 : Int32)), (.ref b58)])) rfl rfl (hb hby at_167)
              refine go1 st62 ?_
              have N62 := Fr.snoc X62 N61 g_b58
              have Vq62 : Arv Z h62 b58 k58 .char (8193 : Int32) (va61.set 8192 (.int (nar .char ((p4 &&& (255 : Int32)).toUInt32.toUInt16.toUInt32.toInt32)))) (.int 0) := Arv.set Ar62 q62 S62 M62 H62 G62 (fits_nar_char _) W62 8192 (by decide) (by rw [hlen61]; decide)
              obtain ⟨va62, hva62⟩ : ∃ q, q = (va61.set 8192 (.int (nar .char ((p4 &&& (255 : Int32)).toUInt32.toUInt16.toUInt32.toInt32)))) := ⟨_, rfl⟩
              have hlat62 : LatL va62 := by rw [hva62]; exact LatL.set hlat61 _ _ (own_ch p4)
              have hlen62 : va62.length = ((8193 : Int32)).toNatClampNeg := by rw [hva62, List.length_set]; exact hlen61
              rw [← hva62] at Vq62
              show Go p.tables e below T62 (mkF m 168 #[.val (.int p1), .val (.int p2), .val (.int p3), .val (.int p4), .val (.int ((p1 &&& (2147483647 : Int32)) % (8 : Int32))), .val (.ref b58), .val (.int (8193 : Int32)), .unset, .unset] []) _
              obtain ⟨T63, h63, X63, e63, E63, A63, D63, -, st63⟩ := newO X62 hx hZ hown (hw _ (List.mem_of_getElem? (i := 2) rfl)) (hw _ (List.mem_of_getElem? (i := 3) rfl)) (hw _ (List.mem_of_getElem? (i := 4) rfl)) e62 (g := (mkF m 168 #[.val (.int p1), .val (.int p2), .val (.int p3), .val (.int p4), .val (.int ((p1 &&& (2147483647 : Int32)) % (8 : Int32))), .val (.ref b58), .val (.int (8193 : Int32)), .unset, .unset] [])) rfl (hb hby at_168) (by decide) (by decide)
              obtain ⟨b63, g63⟩ : ∃ z, z = h62.size := ⟨_, rfl⟩
              rw [← g63] at A63 D63 st63
              have g_b63 : n0 ≤ b63 := Nat.le_trans (Nat.le_trans (Nat.le_trans (Nat.le_trans (Nat.le_trans Z0 E58.1) (Keep.of_wr W60).1) (Keep.of_wr W61).1) (Keep.of_wr W62).1) (Nat.le_of_eq g63.symm)
              have F_value_b63 : Fld Z h63 b63 "java/lang/String" "value" "[B" .null := D63 (Or.inr (hw _ (List.mem_of_getElem? (i := 17) rfl))) (ty := (.array .byte)) (by decide)
              have F_coder_b63 : Fld Z h63 b63 "java/lang/String" "coder" "B" (.int (0 : Int32)) := D63 (Or.inr (hw _ (List.mem_of_getElem? (i := 18) rfl))) (ty := .byte) (by decide)
              refine go1 st63 ?_
              show Go p.tables e below T63 (mkF m 171 #[.val (.int p1), .val (.int p2), .val (.int p3), .val (.int p4), .val (.int ((p1 &&& (2147483647 : Int32)) % (8 : Int32))), .val (.ref b58), .val (.int (8193 : Int32)), .unset, .unset] [(.ref b63)]) _
              refine go1 (fun _ => XS.dup X63.here hx rfl (hb hby at_171) rfl rfl) ?_
              show Go p.tables e below T63 (mkF m 172 #[.val (.int p1), .val (.int p2), .val (.int p3), .val (.int p4), .val (.int ((p1 &&& (2147483647 : Int32)) % (8 : Int32))), .val (.ref b58), .val (.int (8193 : Int32)), .unset, .unset] [(.ref b63), (.ref b63)]) _
              refine go1 (fun _ => XS.aload X63.here hx rfl (hb hby at_172) rfl rfl) ?_
              show Go p.tables e below T63 (mkF m 174 #[.val (.int p1), .val (.int p2), .val (.int p3), .val (.int p4), .val (.int ((p1 &&& (2147483647 : Int32)) % (8 : Int32))), .val (.ref b58), .val (.int (8193 : Int32)), .unset, .unset] [(.ref b58), (.ref b63), (.ref b63)]) _
              obtain ⟨_, _, ⟨T64, L64, k64, n64⟩, -, X64, ⟨Lc64, hQ64, l64, y64, z64⟩, st64⟩ := X63.specialBack hx (y := (⟨"java/lang/String", "<init>", "([C)V"⟩ : MethodName)) rfl hown (mvT hZ (hw _ (List.mem_of_getElem? (i := 5) rfl))) (mvT hZ (hw _ (List.mem_of_getElem? (i := 6) rfl))) (mvT hZ (hw _ (List.mem_of_getElem? (i := 7) rfl))) (by decide) (backOf (W := 1) (rm1 l Z a0 hw [] b63 b58 k58 (8193 : Int32) va62 a_COMPACT_STRINGS h63 n0 (Nat.le_trans (Nat.le_trans (Nat.le_trans (Nat.le_trans (Nat.le_trans Z0 E58.1) (Keep.of_wr W60).1) (Keep.of_wr W61).1) (Keep.of_wr W62).1) E63.1) F_value_b63 F_coder_b63 A63 g_b63 (((((O0.ext E58).wr W60 g_b58).wr W61 g_b58).wr W62 g_b58).ext E63) S_COMPACT_STRINGS P_a_COMPACT_STRINGS (Vq62.ext E63) hlat62 (by decide) (Nat.ne_of_lt (Nat.lt_of_lt_of_le Vq62.lt (Nat.le_of_eq g63.symm))) (by decide) (by decide)) hZ (hw _ (List.mem_of_getElem? (i := 7) rfl)) (hw _ (List.mem_of_getElem? (i := 4) rfl)) (by decide) (by decide)) (g := (mkF m 174 #[.val (.int p1), .val (.int p2), .val (.int p3), .val (.int p4), .val (.int ((p1 &&& (2147483647 : Int32)) % (8 : Int32))), .val (.ref b58), .val (.int (8193 : Int32)), .unset, .unset] [(.ref b58), (.ref b63), (.ref b63)])) rfl (by rw [hml]; rfl) (Steps.refl _) (a := b63) (argsL := [(.ref b58)]) (rest := [(.ref b63)]) (lenOf pd0_0 rfl) rfl (by show 2 * 0 + _ ≤ _; exact Nat.le_of_eq rfl) (hb hby at_174) (fun _ _ => ⟨rfl, e63, (by decide : 2 + 1 ≤ _), (by decide : 8197 + 16385 ≤ _)⟩)
              dsimp only [Pt.U, Pt.locs, Pt.cells, Pt.slots] at X64 l64 y64 z64 st64 hQ64
              subst l64 y64 z64
              obtain ⟨t65, kt66, vt67, rfl, N64q, K64, G64_0, G64_1, G64_2, G64_3⟩ := hQ64
              have N64 := Fr.app N62 N64q
              refine goT st64 ?_
              show Go p.tables e below T64 (mkF m 177 #[.val (.int p1), .val (.int p2), .val (.int p3), .val (.int p4), .val (.int ((p1 &&& (2147483647 : Int32)) % (8 : Int32))), .val (.ref b58), .val (.int (8193 : Int32)), .unset, .unset] [(.ref b63)]) _
              refine go1 (fun _ => XS.astore X64.here hx rfl (hb hby at_177) rfl rfl (l' := #[.val (.int p1), .val (.int p2), .val (.int p3), .val (.int p4), .val (.int ((p1 &&& (2147483647 : Int32)) % (8 : Int32))), .val (.ref b58), .val (.int (8193 : Int32)), .val (.ref b63), .unset]) rfl) ?_
              show Go p.tables e below T64 (mkF m 179 #[.val (.int p1), .val (.int p2), .val (.int p3), .val (.int p4), .val (.int ((p1 &&& (2147483647 : Int32)) % (8 : Int32))), .val (.ref b58), .val (.int (8193 : Int32)), .val (.ref b63), .unset] []) _
              refine go1 (fun _ => XS.iload X64.here hx rfl (hb hby at_179) rfl) ?_
              show Go p.tables e below T64 (mkF m 181 #[.val (.int p1), .val (.int p2), .val (.int p3), .val (.int p4), .val (.int ((p1 &&& (2147483647 : Int32)) % (8 : Int32))), .val (.ref b58), .val (.int (8193 : Int32)), .val (.ref b63), .unset] [(.int (8193 : Int32))]) _
              refine go1 (fun _ => XS.sipush X64.here hx rfl (hb hby at_181)) ?_
              show Go p.tables e below T64 (mkF m 184 #[.val (.int p1), .val (.int p2), .val (.int p3), .val (.int p4), .val (.int ((p1 &&& (2147483647 : Int32)) % (8 : Int32))), .val (.ref b58), .val (.int (8193 : Int32)), .val (.ref b63), .unset] [(.int (8192 : Int32)), (.int (8193 : Int32))]) _
              refine go1 (fun _ => XS.icmpNo X64.here hx rfl (hb hby at_184) rfl (tlt (by decide : (8192 : Int32) < (8193 : Int32))).2.2.2) ?_
              show Go p.tables e below T64 (mkF m 187 #[.val (.int p1), .val (.int p2), .val (.int p3), .val (.int p4), .val (.int ((p1 &&& (2147483647 : Int32)) % (8 : Int32))), .val (.ref b58), .val (.int (8193 : Int32)), .val (.ref b63), .unset] []) _
              refine go1 (fun _ => XS.iconst X64.here hx rfl (hb hby at_187)) ?_
              show Go p.tables e below T64 (mkF m 188 #[.val (.int p1), .val (.int p2), .val (.int p3), .val (.int p4), .val (.int ((p1 &&& (2147483647 : Int32)) % (8 : Int32))), .val (.ref b58), .val (.int (8193 : Int32)), .val (.ref b63), .unset] [(.int (1 : Int32))]) _
              refine go1 (fun _ => XS.goto X64.here hx rfl (pc0 := 188) (pc' := 192) rfl (hb hby at_188) (by decide) (by decide)) ?_
              show Go p.tables e below T64 (mkF m 192 #[.val (.int p1), .val (.int p2), .val (.int p3), .val (.int p4), .val (.int ((p1 &&& (2147483647 : Int32)) % (8 : Int32))), .val (.ref b58), .val (.int (8193 : Int32)), .val (.ref b63), .unset] [(.int (1 : Int32))]) _
              refine go1 (fun _ => XS.istore X64.here hx rfl (hb hby at_192) rfl (l' := #[.val (.int p1), .val (.int p2), .val (.int p3), .val (.int p4), .val (.int ((p1 &&& (2147483647 : Int32)) % (8 : Int32))), .val (.ref b58), .val (.int (8193 : Int32)), .val (.ref b63), .val (.int (1 : Int32))]) rfl) ?_
              show Go p.tables e below T64 (mkF m 194 #[.val (.int p1), .val (.int p2), .val (.int p3), .val (.int p4), .val (.int ((p1 &&& (2147483647 : Int32)) % (8 : Int32))), .val (.ref b58), .val (.int (8193 : Int32)), .val (.ref b63), .val (.int (1 : Int32))] []) _
              refine go1 (fun _ => XS.aload X64.here hx rfl (hb hby at_194) rfl rfl) ?_
              show Go p.tables e below T64 (mkF m 196 #[.val (.int p1), .val (.int p2), .val (.int p3), .val (.int p4), .val (.int ((p1 &&& (2147483647 : Int32)) % (8 : Int32))), .val (.ref b58), .val (.int (8193 : Int32)), .val (.ref b63), .val (.int (1 : Int32))] [(.ref b63)]) _
              obtain ⟨_, _, ⟨T68, L68, k68, n68⟩, -, X68, ⟨Lc68, hQ68, l68, y68, z68⟩, st68⟩ := Jvm.LawKit.callS X64 hx (y := (⟨"com/example/under50k/under50k/SitemapReader", "isCut", "(Ljava/lang/String;)Z"⟩ : MethodName)) hown (mvT hZ (hw _ (List.mem_of_getElem? (i := 23) rfl))) (mvT hZ (hw _ (List.mem_of_getElem? (i := 24) rfl))) (mvT hZ (hw _ (List.mem_of_getElem? (i := 25) rfl))) (mvT hZ (hw _ (List.mem_of_getElem? (i := 26) rfl))) (by decide) (backOf (W := 0) (rm4 l Z a0 hw [] b63 t65 kt66 (8193 : Int32) vt67 a_COMPACT_STRINGS T64.heap n0 (Nat.le_trans (Nat.le_trans (Nat.le_trans (Nat.le_trans (Nat.le_trans (Nat.le_trans Z0 E58.1) (Keep.of_wr W60).1) (Keep.of_wr W61).1) (Keep.of_wr W62).1) E63.1) K64.1) ((((((O0.ext E58).wr W60 g_b58).wr W61 g_b58).wr W62 g_b58).ext E63).keep K64 (allS g_b63 all0)) S_COMPACT_STRINGS P_a_COMPACT_STRINGS G64_1 G64_2 G64_3 G64_0) hZ (hw _ (List.mem_of_getElem? (i := 26) rfl)) (hw _ (List.mem_of_getElem? (i := 25) rfl)) (by decide) (by decide)) (g := (mkF m 196 #[.val (.int p1), .val (.int p2), .val (.int p3), .val (.int p4), .val (.int ((p1 &&& (2147483647 : Int32)) % (8 : Int32))), .val (.ref b58), .val (.int (8193 : Int32)), .val (.ref b63), .val (.int (1 : Int32))] [(.ref b63)])) rfl (by rw [hml]; rfl) (argsL := [(.ref b63)]) (rest := []) (lenOf pd0_1 rfl) rfl (by show 2 * 0 + _ ≤ _; exact Nat.le_of_eq rfl) (hb hby at_196) (fun _ _ => ⟨rfl, rfl, (by decide : 3 + 0 ≤ _), (by decide : 24582 + 0 ≤ _)⟩)
              dsimp only [Pt.U, Pt.locs, Pt.cells, Pt.slots] at X68 l68 y68 z68 st68 hQ68
              subst l68 y68 z68
              obtain ⟨rfl, N68q, e68⟩ := hQ68
              have N68 := Fr.app N64 N68q
              refine go1 st68 ?_
              show Go p.tables e below T68 (mkF m 199 #[.val (.int p1), .val (.int p2), .val (.int p3), .val (.int p4), .val (.int ((p1 &&& (2147483647 : Int32)) % (8 : Int32))), .val (.ref b58), .val (.int (8193 : Int32)), .val (.ref b63), .val (.int (1 : Int32))] [(.int (own_4 (8193 : Int32)))]) _
              refine go1 (fun _ => XS.iload X68.here hx rfl (hb hby at_199) rfl) ?_
              show Go p.tables e below T68 (mkF m 201 #[.val (.int p1), .val (.int p2), .val (.int p3), .val (.int p4), .val (.int ((p1 &&& (2147483647 : Int32)) % (8 : Int32))), .val (.ref b58), .val (.int (8193 : Int32)), .val (.ref b63), .val (.int (1 : Int32))] [(.int (1 : Int32)), (.int (own_4 (8193 : Int32)))]) _
              refine go1 (fun _ => XS.icmpNo X68.here hx rfl (hb hby at_201) rfl (teq (by decide)).2) ?_
              show Go p.tables e below T68 (mkF m 204 #[.val (.int p1), .val (.int p2), .val (.int p3), .val (.int p4), .val (.int ((p1 &&& (2147483647 : Int32)) % (8 : Int32))), .val (.ref b58), .val (.int (8193 : Int32)), .val (.ref b63), .val (.int (1 : Int32))] []) _
              refine go1 (fun _ => XS.iconst X68.here hx rfl (hb hby at_204)) ?_
              show Go p.tables e below T68 (mkF m 205 #[.val (.int p1), .val (.int p2), .val (.int p3), .val (.int p4), .val (.int ((p1 &&& (2147483647 : Int32)) % (8 : Int32))), .val (.ref b58), .val (.int (8193 : Int32)), .val (.ref b63), .val (.int (1 : Int32))] [(.int (1 : Int32))]) _
              refine go1 (fun _ => XS.goto X68.here hx rfl (pc0 := 205) (pc' := 209) rfl (hb hby at_205) (by decide) (by decide)) ?_
              show Go p.tables e below T68 (mkF m 209 #[.val (.int p1), .val (.int p2), .val (.int p3), .val (.int p4), .val (.int ((p1 &&& (2147483647 : Int32)) % (8 : Int32))), .val (.ref b58), .val (.int (8193 : Int32)), .val (.ref b63), .val (.int (1 : Int32))] [(.int (1 : Int32))]) _
              refine goRW (s := s) (vm₁ := s.vm) X68 hS0 (by rw [e68]; exact (Nat.le_trans (Nat.le_trans (Nat.le_trans (Nat.le_trans (Nat.le_trans (Nat.le_trans (Nat.zero_le _) E58.1) (Keep.of_wr W60).1) (Keep.of_wr W61).1) (Keep.of_wr W62).1) E63.1) K64.1)) (BodyLoose.notSynchronized Bd) (v := (some (.int (1 : Int32)))) (fun h => by rw [Bd.returns] at h; cases h) (Q0 Z p1 p2 p3 p4 a_COMPACT_STRINGS h0 n0) (fun fs hr => retN X68 hx (t := .boolean) Bd.returns (by simp) (hb hby at_209) hr) (by decide) (by decide) ?_
              show Q0 Z p1 p2 p3 p4 a_COMPACT_STRINGS h0 n0 _ T68.heap _
              rw [e68]
              exact ⟨rfl, N68⟩
            · skip
              refine go1 (fun _ => XS.icmpYes X0.here hx rfl (pc0 := 85) (pc' := 98) rfl (hb hby at_85) rfl (feq hc57).2 (by decide) (by decide)) ?_
              show Go p.tables e below s₁ (mkF m 98 #[.val (.int p1), .val (.int p2), .val (.int p3), .val (.int p4), .val (.int ((p1 &&& (2147483647 : Int32)) % (8 : Int32))), .unset, .unset, .unset, .unset] []) _
              refine go1 (fun _ => XS.iload X0.here hx rfl (hb hby at_98) rfl) ?_
              show Go p.tables e below s₁ (mkF m 100 #[.val (.int p1), .val (.int p2), .val (.int p3), .val (.int p4), .val (.int ((p1 &&& (2147483647 : Int32)) % (8 : Int32))), .unset, .unset, .unset, .unset] [(.int ((p1 &&& (2147483647 : Int32)) % (8 : Int32)))]) _
              refine go1 (fun _ => XS.bipush X0.here hx rfl (hb hby at_100)) ?_
              show Go p.tables e below s₁ (mkF m 102 #[.val (.int p1), .val (.int p2), .val (.int p3), .val (.int p4), .val (.int ((p1 &&& (2147483647 : Int32)) % (8 : Int32))), .unset, .unset, .unset, .unset] [(.int (6 : Int32)), (.int ((p1 &&& (2147483647 : Int32)) % (8 : Int32)))]) _
              by_cases hc69 : ((p1 &&& (2147483647 : Int32)) % (8 : Int32)) = (6 : Int32)
              · skip
                refine go1 (fun _ => XS.icmpNo X0.here hx rfl (hb hby at_102) rfl (teq hc69).2) ?_
                show Go p.tables e below s₁ (mkF m 105 #[.val (.int p1), .val (.int p2), .val (.int p3), .val (.int p4), .val (.int ((p1 &&& (2147483647 : Int32)) % (8 : Int32))), .unset, .unset, .unset, .unset] []) _
                refine go1 (fun _ => XS.sipush X0.here hx rfl (hb hby at_105)) ?_
                show Go p.tables e below s₁ (mkF m 108 #[.val (.int p1), .val (.int p2), .val (.int p3), .val (.int p4), .val (.int ((p1 &&& (2147483647 : Int32)) % (8 : Int32))), .unset, .unset, .unset, .unset] [(.int (8194 : Int32))]) _
                obtain ⟨T70, h70, k70, X70, e70, E70, A70, st70⟩ := newP X0 hx hZ (hw _ (List.mem_of_getElem? (i := 1) rfl)) e0 (g := (mkF m 108 #[.val (.int p1), .val (.int p2), .val (.int p3), .val (.int p4), .val (.int ((p1 &&& (2147483647 : Int32)) % (8 : Int32))), .unset, .unset, .unset, .unset] [(.int (8194 : Int32))])) rfl (hb hby at_108) rfl (by decide) (cap := 8194) (by decide) (by decide) (by decide) (by decide)
                obtain ⟨b70, g70⟩ : ∃ z, z = h0.size := ⟨_, rfl⟩
                rw [← g70] at A70 st70
                have g_b70 : n0 ≤ b70 := Nat.le_trans Z0 (Nat.le_of_eq g70.symm)
                have V_b70 : Arv Z h70 b70 k70 .char (8194 : Int32) [] (.int 0) := Arv.new A70 (by decide)
                refine go1 st70 ?_
                show Go p.tables e below T70 (mkF m 110 #[.val (.int p1), .val (.int p2), .val (.int p3), .val (.int p4), .val (.int ((p1 &&& (2147483647 : Int32)) % (8 : Int32))), .unset, .unset, .unset, .unset] [(.ref b70)]) _
                refine go1 (fun _ => XS.astore X70.here hx rfl (hb hby at_110) rfl rfl (l' := #[.val (.int p1), .val (.int p2), .val (.int p3), .val (.int p4), .val (.int ((p1 &&& (2147483647 : Int32)) % (8 : Int32))), .val (.ref b70), .unset, .unset, .unset]) rfl) ?_
                show Go p.tables e below T70 (mkF m 112 #[.val (.int p1), .val (.int p2), .val (.int p3), .val (.int p4), .val (.int ((p1 &&& (2147483647 : Int32)) % (8 : Int32))), .val (.ref b70), .unset, .unset, .unset] []) _
                refine go1 (fun _ => XS.goto X70.here hx rfl (pc0 := 112) (pc' := 122) rfl (hb hby at_112) (by decide) (by decide)) ?_
                show Go p.tables e below T70 (mkF m 122 #[.val (.int p1), .val (.int p2), .val (.int p3), .val (.int p4), .val (.int ((p1 &&& (2147483647 : Int32)) % (8 : Int32))), .val (.ref b70), .unset, .unset, .unset] []) _
                refine go1 (fun _ => XS.aload X70.here hx rfl (hb hby at_122) rfl rfl) ?_
                show Go p.tables e below T70 (mkF m 124 #[.val (.int p1), .val (.int p2), .val (.int p3), .val (.int p4), .val (.int ((p1 &&& (2147483647 : Int32)) % (8 : Int32))), .val (.ref b70), .unset, .unset, .unset] [(.ref b70)]) _
                have vo71 := V_b70
                obtain ⟨cl71, Ar71, -, S71, M71, -, -⟩ := vo71
                refine go1 (T' := T70) (g' := (mkF m 125 #[.val (.int p1), .val (.int p2), .val (.int p3), .val (.int p4), .val (.int ((p1 &&& (2147483647 : Int32)) % (8 : Int32))), .val (.ref b70), .unset, .unset, .unset] [(.int (8194 : Int32))])) (fun t k => ?_) ?_
                · refine X70.arraylength hx (by rw [e70]; exact Ar71.1) (State.isArrayOf_alike hZ.alike Ar71.2.1) (g := (mkF m 124 #[.val (.int p1), .val (.int p2), .val (.int p3), .val (.int p4), .val (.int ((p1 &&& (2147483647 : Int32)) % (8 : Int32))), .val (.ref b70), .unset, .unset, .unset] [(.ref b70)])) rfl rfl (hb hby at_124) _ ?_
                  rw [len_of S71 M71]
                  exact k
                show Go p.tables e below T70 (mkF m 125 #[.val (.int p1), .val (.int p2), .val (.int p3), .val (.int p4), .val (.int ((p1 &&& (2147483647 : Int32)) % (8 : Int32))), .val (.ref b70), .unset, .unset, .unset] [(.int (8194 : Int32))]) _
                refine go1 (fun _ => XS.istore X70.here hx rfl (hb hby at_125) rfl (l' := #[.val (.int p1), .val (.int p2), .val (.int p3), .val (.int p4), .val (.int ((p1 &&& (2147483647 : Int32)) % (8 : Int32))), .val (.ref b70), .val (.int (8194 : Int32)), .unset, .unset]) rfl) ?_
                show Go p.tables e below T70 (mkF m 127 #[.val (.int p1), .val (.int p2), .val (.int p3), .val (.int p4), .val (.int ((p1 &&& (2147483647 : Int32)) % (8 : Int32))), .val (.ref b70), .val (.int (8194 : Int32)), .unset, .unset] []) _
                refine go1 (fun _ => XS.iload X70.here hx rfl (hb hby at_127) rfl) ?_
                show Go p.tables e below T70 (mkF m 129 #[.val (.int p1), .val (.int p2), .val (.int p3), .val (.int p4), .val (.int ((p1 &&& (2147483647 : Int32)) % (8 : Int32))), .val (.ref b70), .val (.int (8194 : Int32)), .unset, .unset] [(.int (8194 : Int32))]) _
                refine go1 (fun _ => XS.ifNo X70.here hx rfl (hb hby at_129) rfl ((if0 _ _).trans (tlt (by decide : (0 : Int32) < (8194 : Int32))).2.2.2)) ?_
                show Go p.tables e below T70 (mkF m 132 #[.val (.int p1), .val (.int p2), .val (.int p3), .val (.int p4), .val (.int ((p1 &&& (2147483647 : Int32)) % (8 : Int32))), .val (.ref b70), .val (.int (8194 : Int32)), .unset, .unset] []) _
                refine go1 (fun _ => XS.aload X70.here hx rfl (hb hby at_132) rfl rfl) ?_
                show Go p.tables e below T70 (mkF m 134 #[.val (.int p1), .val (.int p2), .val (.int p3), .val (.int p4), .val (.int ((p1 &&& (2147483647 : Int32)) % (8 : Int32))), .val (.ref b70), .val (.int (8194 : Int32)), .unset, .unset] [(.ref b70)]) _
                refine go1 (fun _ => XS.iload X70.here hx rfl (hb hby at_134) rfl) ?_
                show Go p.tables e below T70 (mkF m 136 #[.val (.int p1), .val (.int p2), .val (.int p3), .val (.int p4), .val (.int ((p1 &&& (2147483647 : Int32)) % (8 : Int32))), .val (.ref b70), .val (.int (8194 : Int32)), .unset, .unset] [(.int (8194 : Int32)), (.ref b70)]) _
                refine go1 (fun _ => XS.iconst X70.here hx rfl (hb hby at_136)) ?_
                show Go p.tables e below T70 (mkF m 137 #[.val (.int p1), .val (.int p2), .val (.int p3), .val (.int p4), .val (.int ((p1 &&& (2147483647 : Int32)) % (8 : Int32))), .val (.ref b70), .val (.int (8194 : Int32)), .unset, .unset] [(.int (2 : Int32)), (.int (8194 : Int32)), (.ref b70)]) _
                refine go1 (fun _ => XS.idiv X70.here hx rfl (hb hby at_137) rfl (by decide)) ?_
                show Go p.tables e below T70 (mkF m 138 #[.val (.int p1), .val (.int p2), .val (.int p3), .val (.int p4), .val (.int ((p1 &&& (2147483647 : Int32)) % (8 : Int32))), .val (.ref b70), .val (.int (8194 : Int32)), .unset, .unset] [(.int (4097 : Int32)), (.ref b70)]) _
                refine go1 (fun _ => XS.iloadN X70.here hx rfl (hb hby at_138) rfl) ?_
                show Go p.tables e below T70 (mkF m 139 #[.val (.int p1), .val (.int p2), .val (.int p3), .val (.int p4), .val (.int ((p1 &&& (2147483647 : Int32)) % (8 : Int32))), .val (.ref b70), .val (.int (8194 : Int32)), .unset, .unset] [(.int p3), (.int (4097 : Int32)), (.ref b70)]) _
                refine go1 (fun _ => XS.sipush X70.here hx rfl (hb hby at_139)) ?_
                show Go p.tables e below T70 (mkF m 142 #[.val (.int p1), .val (.int p2), .val (.int p3), .val (.int p4), .val (.int ((p1 &&& (2147483647 : Int32)) % (8 : Int32))), .val (.ref b70), .val (.int (8194 : Int32)), .unset, .unset] [(.int (255 : Int32)), (.int p3), (.int (4097 : Int32)), (.ref b70)]) _
                refine go1 (fun _ => XS.iand X70.here hx rfl (hb hby at_142) rfl) ?_
                show Go p.tables e below T70 (mkF m 143 #[.val (.int p1), .val (.int p2), .val (.int p3), .val (.int p4), .val (.int ((p1 &&& (2147483647 : Int32)) % (8 : Int32))), .val (.ref b70), .val (.int (8194 : Int32)), .unset, .unset] [(.int (p3 &&& (255 : Int32))), (.int (4097 : Int32)), (.ref b70)]) _
                refine go1 (fun _ => XS.i2c X70.here hx rfl (hb hby at_143) rfl) ?_
                show Go p.tables e below T70 (mkF m 144 #[.val (.int p1), .val (.int p2), .val (.int p3), .val (.int p4), .val (.int ((p1 &&& (2147483647 : Int32)) % (8 : Int32))), .val (.ref b70), .val (.int (8194 : Int32)), .unset, .unset] [(.int ((p3 &&& (255 : Int32)).toUInt32.toUInt16.toUInt32.toInt32)), (.int (4097 : Int32)), (.ref b70)]) _
                obtain ⟨va70, Vp70, hlen70, hlat70⟩ := own_arr V_b70
                have vo72 := Vp70
                obtain ⟨cl72, Ar72, q72, S72, M72, H72, G72⟩ := vo72
                have hin72 := inb_of (j := (4097 : Int32)) S72 ⟨by decide, by decide⟩
                obtain ⟨T72, h72, X72, e72, W72, st72⟩ := stC X70 hx hZ e70 Ar72 (j := (4097 : Int32)) hin72 (g := (mkF m 144 #[.val (.int p1), .val (.int p2), .val (.int p3), .val (.int p4), .val (.int ((p1 &&& (2147483647 : Int32)) % (8 : Int32))), .val (.ref b70), .val (.int (8194 : Int32)), .unset, .unset] [(.int ((p3 &&& (255 : Int32)).toUInt32.toUInt16.toUInt32.toInt32)), (.int (4097 : Int32)), (.ref b70)])) rfl rfl (hb hby at_144)
                refine go1 st72 ?_
                have N72 := Fr.snoc X72 N0 g_b70
                have Vq72 : Arv Z h72 b70 k70 .char (8194 : Int32) (va70.set 4097 (.int (nar .char ((p3 &&& (255 : Int32)).toUInt32.toUInt16.toUInt32.toInt32)))) (.int 0) := Arv.set Ar72 q72 S72 M72 H72 G72 (fits_nar_char _) W72 4097 (by decide) (by rw [hlen70]; decide)
                obtain ⟨va72, hva72⟩ : ∃ q, q = (va70.set 4097 (.int (nar .char ((p3 &&& (255 : Int32)).toUInt32.toUInt16.toUInt32.toInt32)))) := ⟨_, rfl⟩
                have hlat72 : LatL va72 := by rw [hva72]; exact LatL.set hlat70 _ _ (own_ch p3)
                have hlen72 : va72.length = ((8194 : Int32)).toNatClampNeg := by rw [hva72, List.length_set]; exact hlen70
                rw [← hva72] at Vq72
                show Go p.tables e below T72 (mkF m 145 #[.val (.int p1), .val (.int p2), .val (.int p3), .val (.int p4), .val (.int ((p1 &&& (2147483647 : Int32)) % (8 : Int32))), .val (.ref b70), .val (.int (8194 : Int32)), .unset, .unset] []) _
                refine go1 (fun _ => XS.aload X72.here hx rfl (hb hby at_145) rfl rfl) ?_
                show Go p.tables e below T72 (mkF m 147 #[.val (.int p1), .val (.int p2), .val (.int p3), .val (.int p4), .val (.int ((p1 &&& (2147483647 : Int32)) % (8 : Int32))), .val (.ref b70), .val (.int (8194 : Int32)), .unset, .unset] [(.ref b70)]) _
                refine go1 (fun _ => XS.iconst X72.here hx rfl (hb hby at_147)) ?_
                show Go p.tables e below T72 (mkF m 148 #[.val (.int p1), .val (.int p2), .val (.int p3), .val (.int p4), .val (.int ((p1 &&& (2147483647 : Int32)) % (8 : Int32))), .val (.ref b70), .val (.int (8194 : Int32)), .unset, .unset] [(.int (0 : Int32)), (.ref b70)]) _
                refine go1 (fun _ => XS.iloadN X72.here hx rfl (hb hby at_148) rfl) ?_
                show Go p.tables e below T72 (mkF m 149 #[.val (.int p1), .val (.int p2), .val (.int p3), .val (.int p4), .val (.int ((p1 &&& (2147483647 : Int32)) % (8 : Int32))), .val (.ref b70), .val (.int (8194 : Int32)), .unset, .unset] [(.int p2), (.int (0 : Int32)), (.ref b70)]) _
                refine go1 (fun _ => XS.sipush X72.here hx rfl (hb hby at_149)) ?_
                show Go p.tables e below T72 (mkF m 152 #[.val (.int p1), .val (.int p2), .val (.int p3), .val (.int p4), .val (.int ((p1 &&& (2147483647 : Int32)) % (8 : Int32))), .val (.ref b70), .val (.int (8194 : Int32)), .unset, .unset] [(.int (255 : Int32)), (.int p2), (.int (0 : Int32)), (.ref b70)]) _
                refine go1 (fun _ => XS.iand X72.here hx rfl (hb hby at_152) rfl) ?_
                show Go p.tables e below T72 (mkF m 153 #[.val (.int p1), .val (.int p2), .val (.int p3), .val (.int p4), .val (.int ((p1 &&& (2147483647 : Int32)) % (8 : Int32))), .val (.ref b70), .val (.int (8194 : Int32)), .unset, .unset] [(.int (p2 &&& (255 : Int32))), (.int (0 : Int32)), (.ref b70)]) _
                refine go1 (fun _ => XS.i2c X72.here hx rfl (hb hby at_153) rfl) ?_
                show Go p.tables e below T72 (mkF m 154 #[.val (.int p1), .val (.int p2), .val (.int p3), .val (.int p4), .val (.int ((p1 &&& (2147483647 : Int32)) % (8 : Int32))), .val (.ref b70), .val (.int (8194 : Int32)), .unset, .unset] [(.int ((p2 &&& (255 : Int32)).toUInt32.toUInt16.toUInt32.toInt32)), (.int (0 : Int32)), (.ref b70)]) _
                have vo73 := Vq72
                obtain ⟨cl73, Ar73, q73, S73, M73, H73, G73⟩ := vo73
                have hin73 := inb_of (j := (0 : Int32)) S73 ⟨by decide, by decide⟩
                obtain ⟨T73, h73, X73, e73, W73, st73⟩ := stC X72 hx hZ e72 Ar73 (j := (0 : Int32)) hin73 (g := (mkF m 154 #[.val (.int p1), .val (.int p2), .val (.int p3), .val (.int p4), .val (.int ((p1 &&& (2147483647 : Int32)) % (8 : Int32))), .val (.ref b70), .val (.int (8194 : Int32)), .unset, .unset] [(.int ((p2 &&& (255 : Int32)).toUInt32.toUInt16.toUInt32.toInt32)), (.int (0 : Int32)), (.ref b70)])) rfl rfl (hb hby at_154)
                refine go1 st73 ?_
                have N73 := Fr.snoc X73 N72 g_b70
                have Vq73 : Arv Z h73 b70 k70 .char (8194 : Int32) (va72.set 0 (.int (nar .char ((p2 &&& (255 : Int32)).toUInt32.toUInt16.toUInt32.toInt32)))) (.int 0) := Arv.set Ar73 q73 S73 M73 H73 G73 (fits_nar_char _) W73 0 (by decide) (by rw [hlen72]; decide)
                obtain ⟨va73, hva73⟩ : ∃ q, q = (va72.set 0 (.int (nar .char ((p2 &&& (255 : Int32)).toUInt32.toUInt16.toUInt32.toInt32)))) := ⟨_, rfl⟩
                have hlat73 : LatL va73 := by rw [hva73]; exact LatL.set hlat72 _ _ (own_ch p2)
                have hlen73 : va73.length = ((8194 : Int32)).toNatClampNeg := by rw [hva73, List.length_set]; exact hlen72
                rw [← hva73] at Vq73
                show Go p.tables e below T73 (mkF m 155 #[.val (.int p1), .val (.int p2), .val (.int p3), .val (.int p4), .val (.int ((p1 &&& (2147483647 : Int32)) % (8 : Int32))), .val (.ref b70), .val (.int (8194 : Int32)), .unset, .unset] []) _
                refine go1 (fun _ => XS.aload X73.here hx rfl (hb hby at_155) rfl rfl) ?_
                show Go p.tables e below T73 (mkF m 157 #[.val (.int p1), .val (.int p2), .val (.int p3), .val (.int p4), .val (.int ((p1 &&& (2147483647 : Int32)) % (8 : Int32))), .val (.ref b70), .val (.int (8194 : Int32)), .unset, .unset] [(.ref b70)]) _
                refine go1 (fun _ => XS.iload X73.here hx rfl (hb hby at_157) rfl) ?_
                show Go p.tables e below T73 (mkF m 159 #[.val (.int p1), .val (.int p2), .val (.int p3), .val (.int p4), .val (.int ((p1 &&& (2147483647 : Int32)) % (8 : Int32))), .val (.ref b70), .val (.int (8194 : Int32)), .unset, .unset] [(.int (8194 : Int32)), (.ref b70)]) _
                refine go1 (fun _ => XS.iconst X73.here hx rfl (hb hby at_159)) ?_
                show Go p.tables e below T73 (mkF m 160 #[.val (.int p1), .val (.int p2), .val (.int p3), .val (.int p4), .val (.int ((p1 &&& (2147483647 : Int32)) % (8 : Int32))), .val (.ref b70), .val (.int (8194 : Int32)), .unset, .unset] [(.int (1 : Int32)), (.int (8194 : Int32)), (.ref b70)]) _
                refine go1 (fun _ => XS.isub X73.here hx rfl (hb hby at_160) rfl) ?_
                show Go p.tables e below T73 (mkF m 161 #[.val (.int p1), .val (.int p2), .val (.int p3), .val (.int p4), .val (.int ((p1 &&& (2147483647 : Int32)) % (8 : Int32))), .val (.ref b70), .val (.int (8194 : Int32)), .unset, .unset] [(.int (8193 : Int32)), (.ref b70)]) _
                refine go1 (fun _ => XS.iloadN X73.here hx rfl (hb hby at_161) rfl) ?_
                show Go p.tables e below T73 (mkF m 162 #[.val (.int p1), .val (.int p2), .val (.int p3), .val (.int p4), .val (.int ((p1 &&& (2147483647 : Int32)) % (8 : Int32))), .val (.ref b70), .val (.int (8194 : Int32)), .unset, .unset] [(.int p4), (.int (8193 : Int32)), (.ref b70)]) _
                refine go1 (fun _ => XS.sipush X73.here hx rfl (hb hby at_162)) ?_
                show Go p.tables e below T73 (mkF m 165 #[.val (.int p1), .val (.int p2), .val (.int p3), .val (.int p4), .val (.int ((p1 &&& (2147483647 : Int32)) % (8 : Int32))), .val (.ref b70), .val (.int (8194 : Int32)), .unset, .unset] [(.int (255 : Int32)), (.int p4), (.int (8193 : Int32)), (.ref b70)]) _
                refine go1 (fun _ => XS.iand X73.here hx rfl (hb hby at_165) rfl) ?_
                show Go p.tables e below T73 (mkF m 166 #[.val (.int p1), .val (.int p2), .val (.int p3), .val (.int p4), .val (.int ((p1 &&& (2147483647 : Int32)) % (8 : Int32))), .val (.ref b70), .val (.int (8194 : Int32)), .unset, .unset] [(.int (p4 &&& (255 : Int32))), (.int (8193 : Int32)), (.ref b70)]) _
                refine go1 (fun _ => XS.i2c X73.here hx rfl (hb hby at_166) rfl) ?_
                show Go p.tables e below T73 (mkF m 167 #[.val (.int p1), .val (.int p2), .val (.int p3), .val (.int p4), .val (.int ((p1 &&& (2147483647 : Int32)) % (8 : Int32))), .val (.ref b70), .val (.int (8194 : Int32)), .unset, .unset] [(.int ((p4 &&& (255 : Int32)).toUInt32.toUInt16.toUInt32.toInt32)), (.int (8193 : Int32)), (.ref b70)]) _
                have vo74 := Vq73
                obtain ⟨cl74, Ar74, q74, S74, M74, H74, G74⟩ := vo74
                have hin74 := inb_of (j := (8193 : Int32)) S74 ⟨by decide, by decide⟩
                obtain ⟨T74, h74, X74, e74, W74, st74⟩ := stC X73 hx hZ e73 Ar74 (j := (8193 : Int32)) hin74 (g := (mkF m 167 #[.val (.int p1), .val (.int p2), .val (.int p3), .val (.int p4), .val (.int ((p1 &&& (2147483647 : Int32)) % (8 : Int32))), .val (.ref b70), .val (.int (8194 : Int32)), .unset, .unset] [(.int ((p4 &&& (255 : Int32)).toUInt32.toUInt16.toUInt32.toInt32)), (.int (8193 : Int32)), (.ref b70)])) rfl rfl (hb hby at_167)
                refine go1 st74 ?_
                have N74 := Fr.snoc X74 N73 g_b70
                have Vq74 : Arv Z h74 b70 k70 .char (8194 : Int32) (va73.set 8193 (.int (nar .char ((p4 &&& (255 : Int32)).toUInt32.toUInt16.toUInt32.toInt32)))) (.int 0) := Arv.set Ar74 q74 S74 M74 H74 G74 (fits_nar_char _) W74 8193 (by decide) (by rw [hlen73]; decide)
                obtain ⟨va74, hva74⟩ : ∃ q, q = (va73.set 8193 (.int (nar .char ((p4 &&& (255 : Int32)).toUInt32.toUInt16.toUInt32.toInt32)))) := ⟨_, rfl⟩
                have hlat74 : LatL va74 := by rw [hva74]; exact LatL.set hlat73 _ _ (own_ch p4)
                have hlen74 : va74.length = ((8194 : Int32)).toNatClampNeg := by rw [hva74, List.length_set]; exact hlen73
                rw [← hva74] at Vq74
                show Go p.tables e below T74 (mkF m 168 #[.val (.int p1), .val (.int p2), .val (.int p3), .val (.int p4), .val (.int ((p1 &&& (2147483647 : Int32)) % (8 : Int32))), .val (.ref b70), .val (.int (8194 : Int32)), .unset, .unset] []) _
                obtain ⟨T75, h75, X75, e75, E75, A75, D75, -, st75⟩ := newO X74 hx hZ hown (hw _ (List.mem_of_getElem? (i := 2) rfl)) (hw _ (List.mem_of_getElem? (i := 3) rfl)) (hw _ (List.mem_of_getElem? (i := 4) rfl)) e74 (g := (mkF m 168 #[.val (.int p1), .val (.int p2), .val (.int p3), .val (.int p4), .val (.int ((p1 &&& (2147483647 : Int32)) % (8 : Int32))), .val (.ref b70), .val (.int (8194 : Int32)), .unset, .unset] [])) rfl (hb hby at_168) (by decide) (by decide)
                obtain ⟨b75, g75⟩ : ∃ z, z = h74.size := ⟨_, rfl⟩
                rw [← g75] at A75 D75 st75
                have g_b75 : n0 ≤ b75 := Nat.le_trans (Nat.le_trans (Nat.le_trans (Nat.le_trans (Nat.le_trans Z0 E70.1) (Keep.of_wr W72).1) (Keep.of_wr W73).1) (Keep.of_wr W74).1) (Nat.le_of_eq g75.symm)
                have F_value_b75 : Fld Z h75 b75 "java/lang/String" "value" "[B" .null := D75 (Or.inr (hw _ (List.mem_of_getElem? (i := 17) rfl))) (ty := (.array .byte)) (by decide)
                have F_coder_b75 : Fld Z h75 b75 "java/lang/String" "coder" "B" (.int (0 : Int32)) := D75 (Or.inr (hw _ (List.mem_of_getElem? (i := 18) rfl))) (ty := .byte) (by decide)
                refine go1 st75 ?_
                show Go p.tables e below T75 (mkF m 171 #[.val (.int p1), .val (.int p2), .val (.int p3), .val (.int p4), .val (.int ((p1 &&& (2147483647 : Int32)) % (8 : Int32))), .val (.ref b70), .val (.int (8194 : Int32)), .unset, .unset] [(.ref b75)]) _
                refine go1 (fun _ => XS.dup X75.here hx rfl (hb hby at_171) rfl rfl) ?_
                show Go p.tables e below T75 (mkF m 172 #[.val (.int p1), .val (.int p2), .val (.int p3), .val (.int p4), .val (.int ((p1 &&& (2147483647 : Int32)) % (8 : Int32))), .val (.ref b70), .val (.int (8194 : Int32)), .unset, .unset] [(.ref b75), (.ref b75)]) _
                refine go1 (fun _ => XS.aload X75.here hx rfl (hb hby at_172) rfl rfl) ?_
                show Go p.tables e below T75 (mkF m 174 #[.val (.int p1), .val (.int p2), .val (.int p3), .val (.int p4), .val (.int ((p1 &&& (2147483647 : Int32)) % (8 : Int32))), .val (.ref b70), .val (.int (8194 : Int32)), .unset, .unset] [(.ref b70), (.ref b75), (.ref b75)]) _
                obtain ⟨_, _, ⟨T76, L76, k76, n76⟩, -, X76, ⟨Lc76, hQ76, l76, y76, z76⟩, st76⟩ := X75.specialBack hx (y := (⟨"java/lang/String", "<init>", "([C)V"⟩ : MethodName)) rfl hown (mvT hZ (hw _ (List.mem_of_getElem? (i := 5) rfl))) (mvT hZ (hw _ (List.mem_of_getElem? (i := 6) rfl))) (mvT hZ (hw _ (List.mem_of_getElem? (i := 7) rfl))) (by decide) (backOf (W := 1) (rm1 l Z a0 hw [] b75 b70 k70 (8194 : Int32) va74 a_COMPACT_STRINGS h75 n0 (Nat.le_trans (Nat.le_trans (Nat.le_trans (Nat.le_trans (Nat.le_trans Z0 E70.1) (Keep.of_wr W72).1) (Keep.of_wr W73).1) (Keep.of_wr W74).1) E75.1) F_value_b75 F_coder_b75 A75 g_b75 (((((O0.ext E70).wr W72 g_b70).wr W73 g_b70).wr W74 g_b70).ext E75) S_COMPACT_STRINGS P_a_COMPACT_STRINGS (Vq74.ext E75) hlat74 (by decide) (Nat.ne_of_lt (Nat.lt_of_lt_of_le Vq74.lt (Nat.le_of_eq g75.symm))) (by decide) (by decide)) hZ (hw _ (List.mem_of_getElem? (i := 7) rfl)) (hw _ (List.mem_of_getElem? (i := 4) rfl)) (by decide) (by decide)) (g := (mkF m 174 #[.val (.int p1), .val (.int p2), .val (.int p3), .val (.int p4), .val (.int ((p1 &&& (2147483647 : Int32)) % (8 : Int32))), .val (.ref b70), .val (.int (8194 : Int32)), .unset, .unset] [(.ref b70), (.ref b75), (.ref b75)])) rfl (by rw [hml]; rfl) (Steps.refl _) (a := b75) (argsL := [(.ref b70)]) (rest := [(.ref b75)]) (lenOf pd0_0 rfl) rfl (by show 2 * 0 + _ ≤ _; exact Nat.le_of_eq rfl) (hb hby at_174) (fun _ _ => ⟨rfl, e75, (by decide : 2 + 1 ≤ _), (by decide : 8198 + 16385 ≤ _)⟩)
                dsimp only [Pt.U, Pt.locs, Pt.cells, Pt.slots] at X76 l76 y76 z76 st76 hQ76
                subst l76 y76 z76
                obtain ⟨t77, kt78, vt79, rfl, N76q, K76, G76_0, G76_1, G76_2, G76_3⟩ := hQ76
                have N76 := Fr.app N74 N76q
                refine goT st76 ?_
                show Go p.tables e below T76 (mkF m 177 #[.val (.int p1), .val (.int p2), .val (.int p3), .val (.int p4), .val (.int ((p1 &&& (2147483647 : Int32)) % (8 : Int32))), .val (.ref b70), .val (.int (8194 : Int32)), .unset, .unset] [(.ref b75)]) _
                refine go1 (fun _ => XS.astore X76.here hx rfl (hb hby at_177) rfl rfl (l' := #[.val (.int p1), .val (.int p2), .val (.int p3), .val (.int p4), .val (.int ((p1 &&& (2147483647 : Int32)) % (8 : Int32))), .val (.ref b70), .val (.int (8194 : Int32)), .val (.ref b75), .unset]) rfl) ?_
                show Go p.tables e below T76 (mkF m 179 #[.val (.int p1), .val (.int p2), .val (.int p3), .val (.int p4), .val (.int ((p1 &&& (2147483647 : Int32)) % (8 : Int32))), .val (.ref b70), .val (.int (8194 : Int32)), .val (.ref b75), .unset] []) _
                refine go1 (fun _ => XS.iload X76.here hx rfl (hb hby at_179) rfl) ?_
                show Go p.tables e below T76 (mkF m 181 #[.val (.int p1), .val (.int p2), .val (.int p3), .val (.int p4), .val (.int ((p1 &&& (2147483647 : Int32)) % (8 : Int32))), .val (.ref b70), .val (.int (8194 : Int32)), .val (.ref b75), .unset] [(.int (8194 : Int32))]) _
                refine go1 (fun _ => XS.sipush X76.here hx rfl (hb hby at_181)) ?_
                show Go p.tables e below T76 (mkF m 184 #[.val (.int p1), .val (.int p2), .val (.int p3), .val (.int p4), .val (.int ((p1 &&& (2147483647 : Int32)) % (8 : Int32))), .val (.ref b70), .val (.int (8194 : Int32)), .val (.ref b75), .unset] [(.int (8192 : Int32)), (.int (8194 : Int32))]) _
                refine go1 (fun _ => XS.icmpNo X76.here hx rfl (hb hby at_184) rfl (tlt (by decide : (8192 : Int32) < (8194 : Int32))).2.2.2) ?_
                show Go p.tables e below T76 (mkF m 187 #[.val (.int p1), .val (.int p2), .val (.int p3), .val (.int p4), .val (.int ((p1 &&& (2147483647 : Int32)) % (8 : Int32))), .val (.ref b70), .val (.int (8194 : Int32)), .val (.ref b75), .unset] []) _
                refine go1 (fun _ => XS.iconst X76.here hx rfl (hb hby at_187)) ?_
                show Go p.tables e below T76 (mkF m 188 #[.val (.int p1), .val (.int p2), .val (.int p3), .val (.int p4), .val (.int ((p1 &&& (2147483647 : Int32)) % (8 : Int32))), .val (.ref b70), .val (.int (8194 : Int32)), .val (.ref b75), .unset] [(.int (1 : Int32))]) _
                refine go1 (fun _ => XS.goto X76.here hx rfl (pc0 := 188) (pc' := 192) rfl (hb hby at_188) (by decide) (by decide)) ?_
                show Go p.tables e below T76 (mkF m 192 #[.val (.int p1), .val (.int p2), .val (.int p3), .val (.int p4), .val (.int ((p1 &&& (2147483647 : Int32)) % (8 : Int32))), .val (.ref b70), .val (.int (8194 : Int32)), .val (.ref b75), .unset] [(.int (1 : Int32))]) _
                refine go1 (fun _ => XS.istore X76.here hx rfl (hb hby at_192) rfl (l' := #[.val (.int p1), .val (.int p2), .val (.int p3), .val (.int p4), .val (.int ((p1 &&& (2147483647 : Int32)) % (8 : Int32))), .val (.ref b70), .val (.int (8194 : Int32)), .val (.ref b75), .val (.int (1 : Int32))]) rfl) ?_
                show Go p.tables e below T76 (mkF m 194 #[.val (.int p1), .val (.int p2), .val (.int p3), .val (.int p4), .val (.int ((p1 &&& (2147483647 : Int32)) % (8 : Int32))), .val (.ref b70), .val (.int (8194 : Int32)), .val (.ref b75), .val (.int (1 : Int32))] []) _
                refine go1 (fun _ => XS.aload X76.here hx rfl (hb hby at_194) rfl rfl) ?_
                show Go p.tables e below T76 (mkF m 196 #[.val (.int p1), .val (.int p2), .val (.int p3), .val (.int p4), .val (.int ((p1 &&& (2147483647 : Int32)) % (8 : Int32))), .val (.ref b70), .val (.int (8194 : Int32)), .val (.ref b75), .val (.int (1 : Int32))] [(.ref b75)]) _
                obtain ⟨_, _, ⟨T80, L80, k80, n80⟩, -, X80, ⟨Lc80, hQ80, l80, y80, z80⟩, st80⟩ := Jvm.LawKit.callS X76 hx (y := (⟨"com/example/under50k/under50k/SitemapReader", "isCut", "(Ljava/lang/String;)Z"⟩ : MethodName)) hown (mvT hZ (hw _ (List.mem_of_getElem? (i := 23) rfl))) (mvT hZ (hw _ (List.mem_of_getElem? (i := 24) rfl))) (mvT hZ (hw _ (List.mem_of_getElem? (i := 25) rfl))) (mvT hZ (hw _ (List.mem_of_getElem? (i := 26) rfl))) (by decide) (backOf (W := 0) (rm4 l Z a0 hw [] b75 t77 kt78 (8194 : Int32) vt79 a_COMPACT_STRINGS T76.heap n0 (Nat.le_trans (Nat.le_trans (Nat.le_trans (Nat.le_trans (Nat.le_trans (Nat.le_trans Z0 E70.1) (Keep.of_wr W72).1) (Keep.of_wr W73).1) (Keep.of_wr W74).1) E75.1) K76.1) ((((((O0.ext E70).wr W72 g_b70).wr W73 g_b70).wr W74 g_b70).ext E75).keep K76 (allS g_b75 all0)) S_COMPACT_STRINGS P_a_COMPACT_STRINGS G76_1 G76_2 G76_3 G76_0) hZ (hw _ (List.mem_of_getElem? (i := 26) rfl)) (hw _ (List.mem_of_getElem? (i := 25) rfl)) (by decide) (by decide)) (g := (mkF m 196 #[.val (.int p1), .val (.int p2), .val (.int p3), .val (.int p4), .val (.int ((p1 &&& (2147483647 : Int32)) % (8 : Int32))), .val (.ref b70), .val (.int (8194 : Int32)), .val (.ref b75), .val (.int (1 : Int32))] [(.ref b75)])) rfl (by rw [hml]; rfl) (argsL := [(.ref b75)]) (rest := []) (lenOf pd0_1 rfl) rfl (by show 2 * 0 + _ ≤ _; exact Nat.le_of_eq rfl) (hb hby at_196) (fun _ _ => ⟨rfl, rfl, (by decide : 3 + 0 ≤ _), (by decide : 24583 + 0 ≤ _)⟩)
                dsimp only [Pt.U, Pt.locs, Pt.cells, Pt.slots] at X80 l80 y80 z80 st80 hQ80
                subst l80 y80 z80
                obtain ⟨rfl, N80q, e80⟩ := hQ80
                have N80 := Fr.app N76 N80q
                refine go1 st80 ?_
                show Go p.tables e below T80 (mkF m 199 #[.val (.int p1), .val (.int p2), .val (.int p3), .val (.int p4), .val (.int ((p1 &&& (2147483647 : Int32)) % (8 : Int32))), .val (.ref b70), .val (.int (8194 : Int32)), .val (.ref b75), .val (.int (1 : Int32))] [(.int (own_4 (8194 : Int32)))]) _
                refine go1 (fun _ => XS.iload X80.here hx rfl (hb hby at_199) rfl) ?_
                show Go p.tables e below T80 (mkF m 201 #[.val (.int p1), .val (.int p2), .val (.int p3), .val (.int p4), .val (.int ((p1 &&& (2147483647 : Int32)) % (8 : Int32))), .val (.ref b70), .val (.int (8194 : Int32)), .val (.ref b75), .val (.int (1 : Int32))] [(.int (1 : Int32)), (.int (own_4 (8194 : Int32)))]) _
                refine go1 (fun _ => XS.icmpNo X80.here hx rfl (hb hby at_201) rfl (teq (by decide)).2) ?_
                show Go p.tables e below T80 (mkF m 204 #[.val (.int p1), .val (.int p2), .val (.int p3), .val (.int p4), .val (.int ((p1 &&& (2147483647 : Int32)) % (8 : Int32))), .val (.ref b70), .val (.int (8194 : Int32)), .val (.ref b75), .val (.int (1 : Int32))] []) _
                refine go1 (fun _ => XS.iconst X80.here hx rfl (hb hby at_204)) ?_
                show Go p.tables e below T80 (mkF m 205 #[.val (.int p1), .val (.int p2), .val (.int p3), .val (.int p4), .val (.int ((p1 &&& (2147483647 : Int32)) % (8 : Int32))), .val (.ref b70), .val (.int (8194 : Int32)), .val (.ref b75), .val (.int (1 : Int32))] [(.int (1 : Int32))]) _
                refine go1 (fun _ => XS.goto X80.here hx rfl (pc0 := 205) (pc' := 209) rfl (hb hby at_205) (by decide) (by decide)) ?_
                show Go p.tables e below T80 (mkF m 209 #[.val (.int p1), .val (.int p2), .val (.int p3), .val (.int p4), .val (.int ((p1 &&& (2147483647 : Int32)) % (8 : Int32))), .val (.ref b70), .val (.int (8194 : Int32)), .val (.ref b75), .val (.int (1 : Int32))] [(.int (1 : Int32))]) _
                refine goRW (s := s) (vm₁ := s.vm) X80 hS0 (by rw [e80]; exact (Nat.le_trans (Nat.le_trans (Nat.le_trans (Nat.le_trans (Nat.le_trans (Nat.le_trans (Nat.zero_le _) E70.1) (Keep.of_wr W72).1) (Keep.of_wr W73).1) (Keep.of_wr W74).1) E75.1) K76.1)) (BodyLoose.notSynchronized Bd) (v := (some (.int (1 : Int32)))) (fun h => by rw [Bd.returns] at h; cases h) (Q0 Z p1 p2 p3 p4 a_COMPACT_STRINGS h0 n0) (fun fs hr => retN X80 hx (t := .boolean) Bd.returns (by simp) (hb hby at_209) hr) (by decide) (by decide) ?_
                show Q0 Z p1 p2 p3 p4 a_COMPACT_STRINGS h0 n0 _ T80.heap _
                rw [e80]
                exact ⟨rfl, N80⟩
              · skip
                refine go1 (fun _ => XS.icmpYes X0.here hx rfl (pc0 := 102) (pc' := 115) rfl (hb hby at_102) rfl (feq hc69).2 (by decide) (by decide)) ?_
                show Go p.tables e below s₁ (mkF m 115 #[.val (.int p1), .val (.int p2), .val (.int p3), .val (.int p4), .val (.int ((p1 &&& (2147483647 : Int32)) % (8 : Int32))), .unset, .unset, .unset, .unset] []) _
                refine go1 (fun _ => XS.sipush X0.here hx rfl (hb hby at_115)) ?_
                show Go p.tables e below s₁ (mkF m 118 #[.val (.int p1), .val (.int p2), .val (.int p3), .val (.int p4), .val (.int ((p1 &&& (2147483647 : Int32)) % (8 : Int32))), .unset, .unset, .unset, .unset] [(.int (16385 : Int32))]) _
                obtain ⟨T81, h81, k81, X81, e81, E81, A81, st81⟩ := newP X0 hx hZ (hw _ (List.mem_of_getElem? (i := 1) rfl)) e0 (g := (mkF m 118 #[.val (.int p1), .val (.int p2), .val (.int p3), .val (.int p4), .val (.int ((p1 &&& (2147483647 : Int32)) % (8 : Int32))), .unset, .unset, .unset, .unset] [(.int (16385 : Int32))])) rfl (hb hby at_118) rfl (by decide) (cap := 16385) (by decide) (by decide) (by decide) (by decide)
                obtain ⟨b81, g81⟩ : ∃ z, z = h0.size := ⟨_, rfl⟩
                rw [← g81] at A81 st81
                have g_b81 : n0 ≤ b81 := Nat.le_trans Z0 (Nat.le_of_eq g81.symm)
                have V_b81 : Arv Z h81 b81 k81 .char (16385 : Int32) [] (.int 0) := Arv.new A81 (by decide)
                refine go1 st81 ?_
                show Go p.tables e below T81 (mkF m 120 #[.val (.int p1), .val (.int p2), .val (.int p3), .val (.int p4), .val (.int ((p1 &&& (2147483647 : Int32)) % (8 : Int32))), .unset, .unset, .unset, .unset] [(.ref b81)]) _
                refine go1 (fun _ => XS.astore X81.here hx rfl (hb hby at_120) rfl rfl (l' := #[.val (.int p1), .val (.int p2), .val (.int p3), .val (.int p4), .val (.int ((p1 &&& (2147483647 : Int32)) % (8 : Int32))), .val (.ref b81), .unset, .unset, .unset]) rfl) ?_
                show Go p.tables e below T81 (mkF m 122 #[.val (.int p1), .val (.int p2), .val (.int p3), .val (.int p4), .val (.int ((p1 &&& (2147483647 : Int32)) % (8 : Int32))), .val (.ref b81), .unset, .unset, .unset] []) _
                refine go1 (fun _ => XS.aload X81.here hx rfl (hb hby at_122) rfl rfl) ?_
                show Go p.tables e below T81 (mkF m 124 #[.val (.int p1), .val (.int p2), .val (.int p3), .val (.int p4), .val (.int ((p1 &&& (2147483647 : Int32)) % (8 : Int32))), .val (.ref b81), .unset, .unset, .unset] [(.ref b81)]) _
                have vo82 := V_b81
                obtain ⟨cl82, Ar82, -, S82, M82, -, -⟩ := vo82
                refine go1 (T' := T81) (g' := (mkF m 125 #[.val (.int p1), .val (.int p2), .val (.int p3), .val (.int p4), .val (.int ((p1 &&& (2147483647 : Int32)) % (8 : Int32))), .val (.ref b81), .unset, .unset, .unset] [(.int (16385 : Int32))])) (fun t k => ?_) ?_
                · refine X81.arraylength hx (by rw [e81]; exact Ar82.1) (State.isArrayOf_alike hZ.alike Ar82.2.1) (g := (mkF m 124 #[.val (.int p1), .val (.int p2), .val (.int p3), .val (.int p4), .val (.int ((p1 &&& (2147483647 : Int32)) % (8 : Int32))), .val (.ref b81), .unset, .unset, .unset] [(.ref b81)])) rfl rfl (hb hby at_124) _ ?_
                  rw [len_of S82 M82]
                  exact k
                show Go p.tables e below T81 (mkF m 125 #[.val (.int p1), .val (.int p2), .val (.int p3), .val (.int p4), .val (.int ((p1 &&& (2147483647 : Int32)) % (8 : Int32))), .val (.ref b81), .unset, .unset, .unset] [(.int (16385 : Int32))]) _
                refine go1 (fun _ => XS.istore X81.here hx rfl (hb hby at_125) rfl (l' := #[.val (.int p1), .val (.int p2), .val (.int p3), .val (.int p4), .val (.int ((p1 &&& (2147483647 : Int32)) % (8 : Int32))), .val (.ref b81), .val (.int (16385 : Int32)), .unset, .unset]) rfl) ?_
                show Go p.tables e below T81 (mkF m 127 #[.val (.int p1), .val (.int p2), .val (.int p3), .val (.int p4), .val (.int ((p1 &&& (2147483647 : Int32)) % (8 : Int32))), .val (.ref b81), .val (.int (16385 : Int32)), .unset, .unset] []) _
                refine go1 (fun _ => XS.iload X81.here hx rfl (hb hby at_127) rfl) ?_
                show Go p.tables e below T81 (mkF m 129 #[.val (.int p1), .val (.int p2), .val (.int p3), .val (.int p4), .val (.int ((p1 &&& (2147483647 : Int32)) % (8 : Int32))), .val (.ref b81), .val (.int (16385 : Int32)), .unset, .unset] [(.int (16385 : Int32))]) _
                refine go1 (fun _ => XS.ifNo X81.here hx rfl (hb hby at_129) rfl ((if0 _ _).trans (tlt (by decide : (0 : Int32) < (16385 : Int32))).2.2.2)) ?_
                show Go p.tables e below T81 (mkF m 132 #[.val (.int p1), .val (.int p2), .val (.int p3), .val (.int p4), .val (.int ((p1 &&& (2147483647 : Int32)) % (8 : Int32))), .val (.ref b81), .val (.int (16385 : Int32)), .unset, .unset] []) _
                refine go1 (fun _ => XS.aload X81.here hx rfl (hb hby at_132) rfl rfl) ?_
                show Go p.tables e below T81 (mkF m 134 #[.val (.int p1), .val (.int p2), .val (.int p3), .val (.int p4), .val (.int ((p1 &&& (2147483647 : Int32)) % (8 : Int32))), .val (.ref b81), .val (.int (16385 : Int32)), .unset, .unset] [(.ref b81)]) _
                refine go1 (fun _ => XS.iload X81.here hx rfl (hb hby at_134) rfl) ?_
                show Go p.tables e below T81 (mkF m 136 #[.val (.int p1), .val (.int p2), .val (.int p3), .val (.int p4), .val (.int ((p1 &&& (2147483647 : Int32)) % (8 : Int32))), .val (.ref b81), .val (.int (16385 : Int32)), .unset, .unset] [(.int (16385 : Int32)), (.ref b81)]) _
                refine go1 (fun _ => XS.iconst X81.here hx rfl (hb hby at_136)) ?_
                show Go p.tables e below T81 (mkF m 137 #[.val (.int p1), .val (.int p2), .val (.int p3), .val (.int p4), .val (.int ((p1 &&& (2147483647 : Int32)) % (8 : Int32))), .val (.ref b81), .val (.int (16385 : Int32)), .unset, .unset] [(.int (2 : Int32)), (.int (16385 : Int32)), (.ref b81)]) _
                refine go1 (fun _ => XS.idiv X81.here hx rfl (hb hby at_137) rfl (by decide)) ?_
                show Go p.tables e below T81 (mkF m 138 #[.val (.int p1), .val (.int p2), .val (.int p3), .val (.int p4), .val (.int ((p1 &&& (2147483647 : Int32)) % (8 : Int32))), .val (.ref b81), .val (.int (16385 : Int32)), .unset, .unset] [(.int (8192 : Int32)), (.ref b81)]) _
                refine go1 (fun _ => XS.iloadN X81.here hx rfl (hb hby at_138) rfl) ?_
                show Go p.tables e below T81 (mkF m 139 #[.val (.int p1), .val (.int p2), .val (.int p3), .val (.int p4), .val (.int ((p1 &&& (2147483647 : Int32)) % (8 : Int32))), .val (.ref b81), .val (.int (16385 : Int32)), .unset, .unset] [(.int p3), (.int (8192 : Int32)), (.ref b81)]) _
                refine go1 (fun _ => XS.sipush X81.here hx rfl (hb hby at_139)) ?_
                show Go p.tables e below T81 (mkF m 142 #[.val (.int p1), .val (.int p2), .val (.int p3), .val (.int p4), .val (.int ((p1 &&& (2147483647 : Int32)) % (8 : Int32))), .val (.ref b81), .val (.int (16385 : Int32)), .unset, .unset] [(.int (255 : Int32)), (.int p3), (.int (8192 : Int32)), (.ref b81)]) _
                refine go1 (fun _ => XS.iand X81.here hx rfl (hb hby at_142) rfl) ?_
                show Go p.tables e below T81 (mkF m 143 #[.val (.int p1), .val (.int p2), .val (.int p3), .val (.int p4), .val (.int ((p1 &&& (2147483647 : Int32)) % (8 : Int32))), .val (.ref b81), .val (.int (16385 : Int32)), .unset, .unset] [(.int (p3 &&& (255 : Int32))), (.int (8192 : Int32)), (.ref b81)]) _
                refine go1 (fun _ => XS.i2c X81.here hx rfl (hb hby at_143) rfl) ?_
                show Go p.tables e below T81 (mkF m 144 #[.val (.int p1), .val (.int p2), .val (.int p3), .val (.int p4), .val (.int ((p1 &&& (2147483647 : Int32)) % (8 : Int32))), .val (.ref b81), .val (.int (16385 : Int32)), .unset, .unset] [(.int ((p3 &&& (255 : Int32)).toUInt32.toUInt16.toUInt32.toInt32)), (.int (8192 : Int32)), (.ref b81)]) _
                obtain ⟨va81, Vp81, hlen81, hlat81⟩ := own_arr V_b81
                have vo83 := Vp81
                obtain ⟨cl83, Ar83, q83, S83, M83, H83, G83⟩ := vo83
                have hin83 := inb_of (j := (8192 : Int32)) S83 ⟨by decide, by decide⟩
                obtain ⟨T83, h83, X83, e83, W83, st83⟩ := stC X81 hx hZ e81 Ar83 (j := (8192 : Int32)) hin83 (g := (mkF m 144 #[.val (.int p1), .val (.int p2), .val (.int p3), .val (.int p4), .val (.int ((p1 &&& (2147483647 : Int32)) % (8 : Int32))), .val (.ref b81), .val (.int (16385 : Int32)), .unset, .unset] [(.int ((p3 &&& (255 : Int32)).toUInt32.toUInt16.toUInt32.toInt32)), (.int (8192 : Int32)), (.ref b81)])) rfl rfl (hb hby at_144)
                refine go1 st83 ?_
                have N83 := Fr.snoc X83 N0 g_b81
                have Vq83 : Arv Z h83 b81 k81 .char (16385 : Int32) (va81.set 8192 (.int (nar .char ((p3 &&& (255 : Int32)).toUInt32.toUInt16.toUInt32.toInt32)))) (.int 0) := Arv.set Ar83 q83 S83 M83 H83 G83 (fits_nar_char _) W83 8192 (by decide) (by rw [hlen81]; decide)
                obtain ⟨va83, hva83⟩ : ∃ q, q = (va81.set 8192 (.int (nar .char ((p3 &&& (255 : Int32)).toUInt32.toUInt16.toUInt32.toInt32)))) := ⟨_, rfl⟩
                have hlat83 : LatL va83 := by rw [hva83]; exact LatL.set hlat81 _ _ (own_ch p3)
                have hlen83 : va83.length = ((16385 : Int32)).toNatClampNeg := by rw [hva83, List.length_set]; exact hlen81
                rw [← hva83] at Vq83
                show Go p.tables e below T83 (mkF m 145 #[.val (.int p1), .val (.int p2), .val (.int p3), .val (.int p4), .val (.int ((p1 &&& (2147483647 : Int32)) % (8 : Int32))), .val (.ref b81), .val (.int (16385 : Int32)), .unset, .unset] []) _
                refine go1 (fun _ => XS.aload X83.here hx rfl (hb hby at_145) rfl rfl) ?_
                show Go p.tables e below T83 (mkF m 147 #[.val (.int p1), .val (.int p2), .val (.int p3), .val (.int p4), .val (.int ((p1 &&& (2147483647 : Int32)) % (8 : Int32))), .val (.ref b81), .val (.int (16385 : Int32)), .unset, .unset] [(.ref b81)]) _
                refine go1 (fun _ => XS.iconst X83.here hx rfl (hb hby at_147)) ?_
                show Go p.tables e below T83 (mkF m 148 #[.val (.int p1), .val (.int p2), .val (.int p3), .val (.int p4), .val (.int ((p1 &&& (2147483647 : Int32)) % (8 : Int32))), .val (.ref b81), .val (.int (16385 : Int32)), .unset, .unset] [(.int (0 : Int32)), (.ref b81)]) _
                refine go1 (fun _ => XS.iloadN X83.here hx rfl (hb hby at_148) rfl) ?_
                show Go p.tables e below T83 (mkF m 149 #[.val (.int p1), .val (.int p2), .val (.int p3), .val (.int p4), .val (.int ((p1 &&& (2147483647 : Int32)) % (8 : Int32))), .val (.ref b81), .val (.int (16385 : Int32)), .unset, .unset] [(.int p2), (.int (0 : Int32)), (.ref b81)]) _
                refine go1 (fun _ => XS.sipush X83.here hx rfl (hb hby at_149)) ?_
                show Go p.tables e below T83 (mkF m 152 #[.val (.int p1), .val (.int p2), .val (.int p3), .val (.int p4), .val (.int ((p1 &&& (2147483647 : Int32)) % (8 : Int32))), .val (.ref b81), .val (.int (16385 : Int32)), .unset, .unset] [(.int (255 : Int32)), (.int p2), (.int (0 : Int32)), (.ref b81)]) _
                refine go1 (fun _ => XS.iand X83.here hx rfl (hb hby at_152) rfl) ?_
                show Go p.tables e below T83 (mkF m 153 #[.val (.int p1), .val (.int p2), .val (.int p3), .val (.int p4), .val (.int ((p1 &&& (2147483647 : Int32)) % (8 : Int32))), .val (.ref b81), .val (.int (16385 : Int32)), .unset, .unset] [(.int (p2 &&& (255 : Int32))), (.int (0 : Int32)), (.ref b81)]) _
                refine go1 (fun _ => XS.i2c X83.here hx rfl (hb hby at_153) rfl) ?_
                show Go p.tables e below T83 (mkF m 154 #[.val (.int p1), .val (.int p2), .val (.int p3), .val (.int p4), .val (.int ((p1 &&& (2147483647 : Int32)) % (8 : Int32))), .val (.ref b81), .val (.int (16385 : Int32)), .unset, .unset] [(.int ((p2 &&& (255 : Int32)).toUInt32.toUInt16.toUInt32.toInt32)), (.int (0 : Int32)), (.ref b81)]) _
                have vo84 := Vq83
                obtain ⟨cl84, Ar84, q84, S84, M84, H84, G84⟩ := vo84
                have hin84 := inb_of (j := (0 : Int32)) S84 ⟨by decide, by decide⟩
                obtain ⟨T84, h84, X84, e84, W84, st84⟩ := stC X83 hx hZ e83 Ar84 (j := (0 : Int32)) hin84 (g := (mkF m 154 #[.val (.int p1), .val (.int p2), .val (.int p3), .val (.int p4), .val (.int ((p1 &&& (2147483647 : Int32)) % (8 : Int32))), .val (.ref b81), .val (.int (16385 : Int32)), .unset, .unset] [(.int ((p2 &&& (255 : Int32)).toUInt32.toUInt16.toUInt32.toInt32)), (.int (0 : Int32)), (.ref b81)])) rfl rfl (hb hby at_154)
                refine go1 st84 ?_
                have N84 := Fr.snoc X84 N83 g_b81
                have Vq84 : Arv Z h84 b81 k81 .char (16385 : Int32) (va83.set 0 (.int (nar .char ((p2 &&& (255 : Int32)).toUInt32.toUInt16.toUInt32.toInt32)))) (.int 0) := Arv.set Ar84 q84 S84 M84 H84 G84 (fits_nar_char _) W84 0 (by decide) (by rw [hlen83]; decide)
                obtain ⟨va84, hva84⟩ : ∃ q, q = (va83.set 0 (.int (nar .char ((p2 &&& (255 : Int32)).toUInt32.toUInt16.toUInt32.toInt32)))) := ⟨_, rfl⟩
                have hlat84 : LatL va84 := by rw [hva84]; exact LatL.set hlat83 _ _ (own_ch p2)
                have hlen84 : va84.length = ((16385 : Int32)).toNatClampNeg := by rw [hva84, List.length_set]; exact hlen83
                rw [← hva84] at Vq84
                show Go p.tables e below T84 (mkF m 155 #[.val (.int p1), .val (.int p2), .val (.int p3), .val (.int p4), .val (.int ((p1 &&& (2147483647 : Int32)) % (8 : Int32))), .val (.ref b81), .val (.int (16385 : Int32)), .unset, .unset] []) _
                refine go1 (fun _ => XS.aload X84.here hx rfl (hb hby at_155) rfl rfl) ?_
                show Go p.tables e below T84 (mkF m 157 #[.val (.int p1), .val (.int p2), .val (.int p3), .val (.int p4), .val (.int ((p1 &&& (2147483647 : Int32)) % (8 : Int32))), .val (.ref b81), .val (.int (16385 : Int32)), .unset, .unset] [(.ref b81)]) _
                refine go1 (fun _ => XS.iload X84.here hx rfl (hb hby at_157) rfl) ?_
                show Go p.tables e below T84 (mkF m 159 #[.val (.int p1), .val (.int p2), .val (.int p3), .val (.int p4), .val (.int ((p1 &&& (2147483647 : Int32)) % (8 : Int32))), .val (.ref b81), .val (.int (16385 : Int32)), .unset, .unset] [(.int (16385 : Int32)), (.ref b81)]) _
                refine go1 (fun _ => XS.iconst X84.here hx rfl (hb hby at_159)) ?_
                show Go p.tables e below T84 (mkF m 160 #[.val (.int p1), .val (.int p2), .val (.int p3), .val (.int p4), .val (.int ((p1 &&& (2147483647 : Int32)) % (8 : Int32))), .val (.ref b81), .val (.int (16385 : Int32)), .unset, .unset] [(.int (1 : Int32)), (.int (16385 : Int32)), (.ref b81)]) _
                refine go1 (fun _ => XS.isub X84.here hx rfl (hb hby at_160) rfl) ?_
                show Go p.tables e below T84 (mkF m 161 #[.val (.int p1), .val (.int p2), .val (.int p3), .val (.int p4), .val (.int ((p1 &&& (2147483647 : Int32)) % (8 : Int32))), .val (.ref b81), .val (.int (16385 : Int32)), .unset, .unset] [(.int (16384 : Int32)), (.ref b81)]) _
                refine go1 (fun _ => XS.iloadN X84.here hx rfl (hb hby at_161) rfl) ?_
                show Go p.tables e below T84 (mkF m 162 #[.val (.int p1), .val (.int p2), .val (.int p3), .val (.int p4), .val (.int ((p1 &&& (2147483647 : Int32)) % (8 : Int32))), .val (.ref b81), .val (.int (16385 : Int32)), .unset, .unset] [(.int p4), (.int (16384 : Int32)), (.ref b81)]) _
                refine go1 (fun _ => XS.sipush X84.here hx rfl (hb hby at_162)) ?_
                show Go p.tables e below T84 (mkF m 165 #[.val (.int p1), .val (.int p2), .val (.int p3), .val (.int p4), .val (.int ((p1 &&& (2147483647 : Int32)) % (8 : Int32))), .val (.ref b81), .val (.int (16385 : Int32)), .unset, .unset] [(.int (255 : Int32)), (.int p4), (.int (16384 : Int32)), (.ref b81)]) _
                refine go1 (fun _ => XS.iand X84.here hx rfl (hb hby at_165) rfl) ?_
                show Go p.tables e below T84 (mkF m 166 #[.val (.int p1), .val (.int p2), .val (.int p3), .val (.int p4), .val (.int ((p1 &&& (2147483647 : Int32)) % (8 : Int32))), .val (.ref b81), .val (.int (16385 : Int32)), .unset, .unset] [(.int (p4 &&& (255 : Int32))), (.int (16384 : Int32)), (.ref b81)]) _
                refine go1 (fun _ => XS.i2c X84.here hx rfl (hb hby at_166) rfl) ?_
                show Go p.tables e below T84 (mkF m 167 #[.val (.int p1), .val (.int p2), .val (.int p3), .val (.int p4), .val (.int ((p1 &&& (2147483647 : Int32)) % (8 : Int32))), .val (.ref b81), .val (.int (16385 : Int32)), .unset, .unset] [(.int ((p4 &&& (255 : Int32)).toUInt32.toUInt16.toUInt32.toInt32)), (.int (16384 : Int32)), (.ref b81)]) _
                have vo85 := Vq84
                obtain ⟨cl85, Ar85, q85, S85, M85, H85, G85⟩ := vo85
                have hin85 := inb_of (j := (16384 : Int32)) S85 ⟨by decide, by decide⟩
                obtain ⟨T85, h85, X85, e85, W85, st85⟩ := stC X84 hx hZ e84 Ar85 (j := (16384 : Int32)) hin85 (g := (mkF m 167 #[.val (.int p1), .val (.int p2), .val (.int p3), .val (.int p4), .val (.int ((p1 &&& (2147483647 : Int32)) % (8 : Int32))), .val (.ref b81), .val (.int (16385 : Int32)), .unset, .unset] [(.int ((p4 &&& (255 : Int32)).toUInt32.toUInt16.toUInt32.toInt32)), (.int (16384 : Int32)), (.ref b81)])) rfl rfl (hb hby at_167)
                refine go1 st85 ?_
                have N85 := Fr.snoc X85 N84 g_b81
                have Vq85 : Arv Z h85 b81 k81 .char (16385 : Int32) (va84.set 16384 (.int (nar .char ((p4 &&& (255 : Int32)).toUInt32.toUInt16.toUInt32.toInt32)))) (.int 0) := Arv.set Ar85 q85 S85 M85 H85 G85 (fits_nar_char _) W85 16384 (by decide) (by rw [hlen84]; decide)
                obtain ⟨va85, hva85⟩ : ∃ q, q = (va84.set 16384 (.int (nar .char ((p4 &&& (255 : Int32)).toUInt32.toUInt16.toUInt32.toInt32)))) := ⟨_, rfl⟩
                have hlat85 : LatL va85 := by rw [hva85]; exact LatL.set hlat84 _ _ (own_ch p4)
                have hlen85 : va85.length = ((16385 : Int32)).toNatClampNeg := by rw [hva85, List.length_set]; exact hlen84
                rw [← hva85] at Vq85
                show Go p.tables e below T85 (mkF m 168 #[.val (.int p1), .val (.int p2), .val (.int p3), .val (.int p4), .val (.int ((p1 &&& (2147483647 : Int32)) % (8 : Int32))), .val (.ref b81), .val (.int (16385 : Int32)), .unset, .unset] []) _
                obtain ⟨T86, h86, X86, e86, E86, A86, D86, -, st86⟩ := newO X85 hx hZ hown (hw _ (List.mem_of_getElem? (i := 2) rfl)) (hw _ (List.mem_of_getElem? (i := 3) rfl)) (hw _ (List.mem_of_getElem? (i := 4) rfl)) e85 (g := (mkF m 168 #[.val (.int p1), .val (.int p2), .val (.int p3), .val (.int p4), .val (.int ((p1 &&& (2147483647 : Int32)) % (8 : Int32))), .val (.ref b81), .val (.int (16385 : Int32)), .unset, .unset] [])) rfl (hb hby at_168) (by decide) (by decide)
                obtain ⟨b86, g86⟩ : ∃ z, z = h85.size := ⟨_, rfl⟩
                rw [← g86] at A86 D86 st86
                have g_b86 : n0 ≤ b86 := Nat.le_trans (Nat.le_trans (Nat.le_trans (Nat.le_trans (Nat.le_trans Z0 E81.1) (Keep.of_wr W83).1) (Keep.of_wr W84).1) (Keep.of_wr W85).1) (Nat.le_of_eq g86.symm)
                have F_value_b86 : Fld Z h86 b86 "java/lang/String" "value" "[B" .null := D86 (Or.inr (hw _ (List.mem_of_getElem? (i := 17) rfl))) (ty := (.array .byte)) (by decide)
                have F_coder_b86 : Fld Z h86 b86 "java/lang/String" "coder" "B" (.int (0 : Int32)) := D86 (Or.inr (hw _ (List.mem_of_getElem? (i := 18) rfl))) (ty := .byte) (by decide)
                refine go1 st86 ?_
                show Go p.tables e below T86 (mkF m 171 #[.val (.int p1), .val (.int p2), .val (.int p3), .val (.int p4), .val (.int ((p1 &&& (2147483647 : Int32)) % (8 : Int32))), .val (.ref b81), .val (.int (16385 : Int32)), .unset, .unset] [(.ref b86)]) _
                refine go1 (fun _ => XS.dup X86.here hx rfl (hb hby at_171) rfl rfl) ?_
                show Go p.tables e below T86 (mkF m 172 #[.val (.int p1), .val (.int p2), .val (.int p3), .val (.int p4), .val (.int ((p1 &&& (2147483647 : Int32)) % (8 : Int32))), .val (.ref b81), .val (.int (16385 : Int32)), .unset, .unset] [(.ref b86), (.ref b86)]) _
                refine go1 (fun _ => XS.aload X86.here hx rfl (hb hby at_172) rfl rfl) ?_
                show Go p.tables e below T86 (mkF m 174 #[.val (.int p1), .val (.int p2), .val (.int p3), .val (.int p4), .val (.int ((p1 &&& (2147483647 : Int32)) % (8 : Int32))), .val (.ref b81), .val (.int (16385 : Int32)), .unset, .unset] [(.ref b81), (.ref b86), (.ref b86)]) _
                obtain ⟨_, _, ⟨T87, L87, k87, n87⟩, -, X87, ⟨Lc87, hQ87, l87, y87, z87⟩, st87⟩ := X86.specialBack hx (y := (⟨"java/lang/String", "<init>", "([C)V"⟩ : MethodName)) rfl hown (mvT hZ (hw _ (List.mem_of_getElem? (i := 5) rfl))) (mvT hZ (hw _ (List.mem_of_getElem? (i := 6) rfl))) (mvT hZ (hw _ (List.mem_of_getElem? (i := 7) rfl))) (by decide) (backOf (W := 1) (rm1 l Z a0 hw [] b86 b81 k81 (16385 : Int32) va85 a_COMPACT_STRINGS h86 n0 (Nat.le_trans (Nat.le_trans (Nat.le_trans (Nat.le_trans (Nat.le_trans Z0 E81.1) (Keep.of_wr W83).1) (Keep.of_wr W84).1) (Keep.of_wr W85).1) E86.1) F_value_b86 F_coder_b86 A86 g_b86 (((((O0.ext E81).wr W83 g_b81).wr W84 g_b81).wr W85 g_b81).ext E86) S_COMPACT_STRINGS P_a_COMPACT_STRINGS (Vq85.ext E86) hlat85 (by decide) (Nat.ne_of_lt (Nat.lt_of_lt_of_le Vq85.lt (Nat.le_of_eq g86.symm))) (by decide) (by decide)) hZ (hw _ (List.mem_of_getElem? (i := 7) rfl)) (hw _ (List.mem_of_getElem? (i := 4) rfl)) (by decide) (by decide)) (g := (mkF m 174 #[.val (.int p1), .val (.int p2), .val (.int p3), .val (.int p4), .val (.int ((p1 &&& (2147483647 : Int32)) % (8 : Int32))), .val (.ref b81), .val (.int (16385 : Int32)), .unset, .unset] [(.ref b81), (.ref b86), (.ref b86)])) rfl (by rw [hml]; rfl) (Steps.refl _) (a := b86) (argsL := [(.ref b81)]) (rest := [(.ref b86)]) (lenOf pd0_0 rfl) rfl (by show 2 * 0 + _ ≤ _; exact Nat.le_of_eq rfl) (hb hby at_174) (fun _ _ => ⟨rfl, e86, (by decide : 2 + 1 ≤ _), (by decide : 16389 + 16385 ≤ _)⟩)
                dsimp only [Pt.U, Pt.locs, Pt.cells, Pt.slots] at X87 l87 y87 z87 st87 hQ87
                subst l87 y87 z87
                obtain ⟨t88, kt89, vt90, rfl, N87q, K87, G87_0, G87_1, G87_2, G87_3⟩ := hQ87
                have N87 := Fr.app N85 N87q
                refine goT st87 ?_
                show Go p.tables e below T87 (mkF m 177 #[.val (.int p1), .val (.int p2), .val (.int p3), .val (.int p4), .val (.int ((p1 &&& (2147483647 : Int32)) % (8 : Int32))), .val (.ref b81), .val (.int (16385 : Int32)), .unset, .unset] [(.ref b86)]) _
                refine go1 (fun _ => XS.astore X87.here hx rfl (hb hby at_177) rfl rfl (l' := #[.val (.int p1), .val (.int p2), .val (.int p3), .val (.int p4), .val (.int ((p1 &&& (2147483647 : Int32)) % (8 : Int32))), .val (.ref b81), .val (.int (16385 : Int32)), .val (.ref b86), .unset]) rfl) ?_
                show Go p.tables e below T87 (mkF m 179 #[.val (.int p1), .val (.int p2), .val (.int p3), .val (.int p4), .val (.int ((p1 &&& (2147483647 : Int32)) % (8 : Int32))), .val (.ref b81), .val (.int (16385 : Int32)), .val (.ref b86), .unset] []) _
                refine go1 (fun _ => XS.iload X87.here hx rfl (hb hby at_179) rfl) ?_
                show Go p.tables e below T87 (mkF m 181 #[.val (.int p1), .val (.int p2), .val (.int p3), .val (.int p4), .val (.int ((p1 &&& (2147483647 : Int32)) % (8 : Int32))), .val (.ref b81), .val (.int (16385 : Int32)), .val (.ref b86), .unset] [(.int (16385 : Int32))]) _
                refine go1 (fun _ => XS.sipush X87.here hx rfl (hb hby at_181)) ?_
                show Go p.tables e below T87 (mkF m 184 #[.val (.int p1), .val (.int p2), .val (.int p3), .val (.int p4), .val (.int ((p1 &&& (2147483647 : Int32)) % (8 : Int32))), .val (.ref b81), .val (.int (16385 : Int32)), .val (.ref b86), .unset] [(.int (8192 : Int32)), (.int (16385 : Int32))]) _
                refine go1 (fun _ => XS.icmpNo X87.here hx rfl (hb hby at_184) rfl (tlt (by decide : (8192 : Int32) < (16385 : Int32))).2.2.2) ?_
                show Go p.tables e below T87 (mkF m 187 #[.val (.int p1), .val (.int p2), .val (.int p3), .val (.int p4), .val (.int ((p1 &&& (2147483647 : Int32)) % (8 : Int32))), .val (.ref b81), .val (.int (16385 : Int32)), .val (.ref b86), .unset] []) _
                refine go1 (fun _ => XS.iconst X87.here hx rfl (hb hby at_187)) ?_
                show Go p.tables e below T87 (mkF m 188 #[.val (.int p1), .val (.int p2), .val (.int p3), .val (.int p4), .val (.int ((p1 &&& (2147483647 : Int32)) % (8 : Int32))), .val (.ref b81), .val (.int (16385 : Int32)), .val (.ref b86), .unset] [(.int (1 : Int32))]) _
                refine go1 (fun _ => XS.goto X87.here hx rfl (pc0 := 188) (pc' := 192) rfl (hb hby at_188) (by decide) (by decide)) ?_
                show Go p.tables e below T87 (mkF m 192 #[.val (.int p1), .val (.int p2), .val (.int p3), .val (.int p4), .val (.int ((p1 &&& (2147483647 : Int32)) % (8 : Int32))), .val (.ref b81), .val (.int (16385 : Int32)), .val (.ref b86), .unset] [(.int (1 : Int32))]) _
                refine go1 (fun _ => XS.istore X87.here hx rfl (hb hby at_192) rfl (l' := #[.val (.int p1), .val (.int p2), .val (.int p3), .val (.int p4), .val (.int ((p1 &&& (2147483647 : Int32)) % (8 : Int32))), .val (.ref b81), .val (.int (16385 : Int32)), .val (.ref b86), .val (.int (1 : Int32))]) rfl) ?_
                show Go p.tables e below T87 (mkF m 194 #[.val (.int p1), .val (.int p2), .val (.int p3), .val (.int p4), .val (.int ((p1 &&& (2147483647 : Int32)) % (8 : Int32))), .val (.ref b81), .val (.int (16385 : Int32)), .val (.ref b86), .val (.int (1 : Int32))] []) _
                refine go1 (fun _ => XS.aload X87.here hx rfl (hb hby at_194) rfl rfl) ?_
                show Go p.tables e below T87 (mkF m 196 #[.val (.int p1), .val (.int p2), .val (.int p3), .val (.int p4), .val (.int ((p1 &&& (2147483647 : Int32)) % (8 : Int32))), .val (.ref b81), .val (.int (16385 : Int32)), .val (.ref b86), .val (.int (1 : Int32))] [(.ref b86)]) _
                obtain ⟨_, _, ⟨T91, L91, k91, n91⟩, -, X91, ⟨Lc91, hQ91, l91, y91, z91⟩, st91⟩ := Jvm.LawKit.callS X87 hx (y := (⟨"com/example/under50k/under50k/SitemapReader", "isCut", "(Ljava/lang/String;)Z"⟩ : MethodName)) hown (mvT hZ (hw _ (List.mem_of_getElem? (i := 23) rfl))) (mvT hZ (hw _ (List.mem_of_getElem? (i := 24) rfl))) (mvT hZ (hw _ (List.mem_of_getElem? (i := 25) rfl))) (mvT hZ (hw _ (List.mem_of_getElem? (i := 26) rfl))) (by decide) (backOf (W := 0) (rm4 l Z a0 hw [] b86 t88 kt89 (16385 : Int32) vt90 a_COMPACT_STRINGS T87.heap n0 (Nat.le_trans (Nat.le_trans (Nat.le_trans (Nat.le_trans (Nat.le_trans (Nat.le_trans Z0 E81.1) (Keep.of_wr W83).1) (Keep.of_wr W84).1) (Keep.of_wr W85).1) E86.1) K87.1) ((((((O0.ext E81).wr W83 g_b81).wr W84 g_b81).wr W85 g_b81).ext E86).keep K87 (allS g_b86 all0)) S_COMPACT_STRINGS P_a_COMPACT_STRINGS G87_1 G87_2 G87_3 G87_0) hZ (hw _ (List.mem_of_getElem? (i := 26) rfl)) (hw _ (List.mem_of_getElem? (i := 25) rfl)) (by decide) (by decide)) (g := (mkF m 196 #[.val (.int p1), .val (.int p2), .val (.int p3), .val (.int p4), .val (.int ((p1 &&& (2147483647 : Int32)) % (8 : Int32))), .val (.ref b81), .val (.int (16385 : Int32)), .val (.ref b86), .val (.int (1 : Int32))] [(.ref b86)])) rfl (by rw [hml]; rfl) (argsL := [(.ref b86)]) (rest := []) (lenOf pd0_1 rfl) rfl (by show 2 * 0 + _ ≤ _; exact Nat.le_of_eq rfl) (hb hby at_196) (fun _ _ => ⟨rfl, rfl, (by decide : 3 + 0 ≤ _), (by decide : 32774 + 0 ≤ _)⟩)
                dsimp only [Pt.U, Pt.locs, Pt.cells, Pt.slots] at X91 l91 y91 z91 st91 hQ91
                subst l91 y91 z91
                obtain ⟨rfl, N91q, e91⟩ := hQ91
                have N91 := Fr.app N87 N91q
                refine go1 st91 ?_
                show Go p.tables e below T91 (mkF m 199 #[.val (.int p1), .val (.int p2), .val (.int p3), .val (.int p4), .val (.int ((p1 &&& (2147483647 : Int32)) % (8 : Int32))), .val (.ref b81), .val (.int (16385 : Int32)), .val (.ref b86), .val (.int (1 : Int32))] [(.int (own_4 (16385 : Int32)))]) _
                refine go1 (fun _ => XS.iload X91.here hx rfl (hb hby at_199) rfl) ?_
                show Go p.tables e below T91 (mkF m 201 #[.val (.int p1), .val (.int p2), .val (.int p3), .val (.int p4), .val (.int ((p1 &&& (2147483647 : Int32)) % (8 : Int32))), .val (.ref b81), .val (.int (16385 : Int32)), .val (.ref b86), .val (.int (1 : Int32))] [(.int (1 : Int32)), (.int (own_4 (16385 : Int32)))]) _
                refine go1 (fun _ => XS.icmpNo X91.here hx rfl (hb hby at_201) rfl (teq (by decide)).2) ?_
                show Go p.tables e below T91 (mkF m 204 #[.val (.int p1), .val (.int p2), .val (.int p3), .val (.int p4), .val (.int ((p1 &&& (2147483647 : Int32)) % (8 : Int32))), .val (.ref b81), .val (.int (16385 : Int32)), .val (.ref b86), .val (.int (1 : Int32))] []) _
                refine go1 (fun _ => XS.iconst X91.here hx rfl (hb hby at_204)) ?_
                show Go p.tables e below T91 (mkF m 205 #[.val (.int p1), .val (.int p2), .val (.int p3), .val (.int p4), .val (.int ((p1 &&& (2147483647 : Int32)) % (8 : Int32))), .val (.ref b81), .val (.int (16385 : Int32)), .val (.ref b86), .val (.int (1 : Int32))] [(.int (1 : Int32))]) _
                refine go1 (fun _ => XS.goto X91.here hx rfl (pc0 := 205) (pc' := 209) rfl (hb hby at_205) (by decide) (by decide)) ?_
                show Go p.tables e below T91 (mkF m 209 #[.val (.int p1), .val (.int p2), .val (.int p3), .val (.int p4), .val (.int ((p1 &&& (2147483647 : Int32)) % (8 : Int32))), .val (.ref b81), .val (.int (16385 : Int32)), .val (.ref b86), .val (.int (1 : Int32))] [(.int (1 : Int32))]) _
                refine goRW (s := s) (vm₁ := s.vm) X91 hS0 (by rw [e91]; exact (Nat.le_trans (Nat.le_trans (Nat.le_trans (Nat.le_trans (Nat.le_trans (Nat.le_trans (Nat.zero_le _) E81.1) (Keep.of_wr W83).1) (Keep.of_wr W84).1) (Keep.of_wr W85).1) E86.1) K87.1)) (BodyLoose.notSynchronized Bd) (v := (some (.int (1 : Int32)))) (fun h => by rw [Bd.returns] at h; cases h) (Q0 Z p1 p2 p3 p4 a_COMPACT_STRINGS h0 n0) (fun fs hr => retN X91 hx (t := .boolean) Bd.returns (by simp) (hb hby at_209) hr) (by decide) (by decide) ?_
                show Q0 Z p1 p2 p3 p4 a_COMPACT_STRINGS h0 n0 _ T91.heap _
                rw [e91]
                exact ⟨rfl, N91⟩
set_option maxRecDepth 65536 in
set_option maxHeartbeats 40000000 in
theorem comes_1 {Post : Tables → Env → Array Value → State → Outcome → State → Prop} (hpost : ∀ tb e args s v u, (limb_1_1.after args s (.returned v) u = true ∧ limb_1_2.after args s (.returned v) u = true ∧ True) → ReturnedEndW s (.returned v) u (Jvm.fieldLocs frame_1_writes args s ++ Jvm.arrayLocs frame_1_arrays args s ++ Jvm.staticLocs frame_1_statics s) 16 66688 → Post tb e args s (.returned v) u) :
    ArmFor flags0 classFile x code maxLocals ret World_1 tables_1 room_1 Calls_1 rest_1 Pre_1 Post := by
  intro l hfl _ _ p e ha hc hk s m args below hf hA hF happ hP
  obtain ⟨hcalls, hrest, hpre⟩ := hP
  obtain ⟨-, -, -, hnamed, -, -, -, hat⟩ := (Spec.applies_iff hf).mp happ
  obtain ⟨hg, hn⟩ := and_e (Cond.before_iff.mp (show (Jvm.Cond.and given_1 narrow_1).before args s = true from hpre))
  obtain ⟨gc, q0⟩ := and_e hg
  obtain ⟨ga0, q1⟩ := and_e q0
  obtain ⟨ga1, q2⟩ := and_e q1
  obtain ⟨ga2, q3⟩ := and_e q2
  have ga3 := q3
  obtain ⟨w0, w1, w2, w3, rfl⟩ : ∃ w0 w1 w2 w3 : Value, args = #[w0, w1, w2, w3] := by
    have hs : args.size = 4 := by simpa [Cond.value, given_1] using gc
    obtain ⟨L⟩ := args
    match L, hs with
    | [w0, w1, w2, w3], _ => exact ⟨w0, w1, w2, w3, rfl⟩
  have hw := fun d (hd : d ∈ tables_1) => atoms_spec (ws := Jvm.Cond.code x code maxLocals ret :: tables_1) hat d (List.mem_cons_of_mem _ hd)
  have hfit : Fit s := fun {y c} hc i hi => by
    obtain ⟨ha, rfl⟩ := Array.getElem?_eq_some_iff.mp hc
    have q := List.all_eq_true.mp ((Array.all_eq_true_iff_forall_mem.mp hF) _ (Array.getElem_mem ha)) i (List.mem_range.mpr hi)
    simpa [Array.getElem?_eq_getElem hi] using q
  obtain ⟨hsets, hown0⟩ := atoms_of _ (rest_1_c_eq ▸ (show rest_1_c.before _ s = true from hrest))
  obtain ⟨i0, ei0⟩ := is_v ga0
  obtain rfl : w0 = (.int i0) := Option.some.inj ei0
  obtain ⟨i1, ei1⟩ := is_v ga1
  obtain rfl : w1 = (.int i1) := Option.some.inj ei1
  obtain ⟨i2, ei2⟩ := is_v ga2
  obtain rfl : w2 = (.int i2) := Option.some.inj ei2
  obtain ⟨i3, ei3⟩ := is_v ga3
  obtain rfl : w3 = (.int i3) := Option.some.inj ei3
  obtain ⟨a_COMPACT_STRINGS, ev_a_COMPACT_STRINGS⟩ := is_v (Cond.before_iff.mp (hsets _ (List.mem_of_getElem? (i := 1) rfl)))
  have S_a_COMPACT_STRINGS := Sta.start ev_a_COMPACT_STRINGS (Or.inl (hsets _ (List.mem_of_getElem? (i := 0) rfl)))
  have P_a_COMPACT_STRINGS : ¬ (a_COMPACT_STRINGS = (0 : Int32)) := gotF (Cond.eq_ints ev_a_COMPACT_STRINGS (Term.int_eval (0 : Int32))) (not_v (Cond.before_iff.mp (hsets _ (List.mem_of_getElem? (i := 2) rfl))))
  obtain ⟨n, o, h1, h2, h3, _, L, rfl, ⟨rfl, N⟩, hq⟩ := rm0 l s _ hw tables_1 i0 i1 i2 i3 a_COMPACT_STRINGS s.heap s.heap.size (Nat.le_refl _) (Old.start s) S_a_COMPACT_STRINGS P_a_COMPACT_STRINGS p e ha hc hk s m _ below hf ((Spec.applies_iff_loose hf).mp happ).1 ⟨rfl, State.Warmed39.refl s, rfl, CHv.start (EW.cons (hw _ (List.mem_of_getElem? (i := 15) rfl)) (fun c hc => by simp at hc) EW.nil) (fun q hq => hcalls.1 q hq) (hsets _ (List.mem_of_getElem? (i := 2) rfl)) (hw _ (List.mem_of_getElem? (i := 16) rfl)) (hw _ (List.mem_of_getElem? (i := 3) rfl))⟩ trivial
  refine ⟨n, _, h1, h2, h3, hpost _ _ _ _ _ _ ⟨Cond.after_iff.mpr rfl, Cond.after_iff.mpr (eq_i res_at (Term.int_eval (1)) rfl), trivial⟩ ⟨hq.1, hq.2.1, hq.2.2.1, (hq.2.2.2.sift fun y hy => Or.inr (N y hy)).mono (by decide) (by decide)⟩⟩
theorem main_1_1 : Claimed_1_1 := comes_1 fun _ _ _ _ _ _ h hF => ⟨h.1, hF⟩
theorem main_1_2 : Claimed_1_2 := comes_1 fun _ _ _ _ _ _ h hF => ⟨h.2.1, hF⟩
end Jvm.Pilot.@@N@@
namespace Jvm.Pilot.@@N@@
open Jvm Jvm.ClassFile Sem Op Lib Jvm.Free Jvm.Stand Jvm.Pilot.@@N@@.Jvm.D
/-! MADE BY PROGRAM (witnessworld.py) out of the Statement's table words and the real class files: 20 classes; the members and pool entries that the words name. The judged class is class 1, her method 1. -/
namespace start1
open Jvm.ClassFile
def u (s : String) : CpInfo := .utf8 (stringToUtf16 s)
/-- a pool by its gaps: so many unusable entries, then the entry; so many at the end -/
def gap : Nat → List CpInfo → List CpInfo
  | 0, r => r
  | n + 1, r => .unusable :: gap n r
def poolList (es : List (Nat × CpInfo)) (last : Nat) : List CpInfo := es.foldr (fun e r => gap e.1 (e.2 :: r)) (gap last [])
def pool (es : List (Nat × CpInfo)) (last : Nat) : Array CpInfo := ⟨poolList es last⟩
def fileOf (pool : Array CpInfo) (this : Nat) (attrs : Array Attribute := #[]) (ms : Array MethodInfo := #[]) (fl : Nat := 33) (sup : Nat := 0) (ifs : Array Nat := #[]) (fds : Array FieldInfo := #[]) : ClassFile where
  minorVersion := 0
  majorVersion := 65
  constantPool := pool
  accessFlags := fl
  thisClass := this
  superClass := sup
  interfaces := ifs
  fields := fds
  methods := ms
  attributes := attrs
def plain (name : String) (sup : Option ClassId) : Class where
  name := name
  kind := .ordinary
  loader := none
  accessFlags := 33
  super := sup
  interfaces := #[]
  cf := none
  fields := #[]
  methods := #[]
  instanceTypes := #[]
  staticTypes := #[]
  resolved := #[]
  callSites := []
  init := .initialized
  statics := none
  mirror := none

def pool0 : Array CpInfo := pool [(5, u "<init>"), (0, u "()V"), (1, .class_ 10), (1, u "java/lang/Object")] 113

def k0c0 : Code := { maxStack := 0, maxLocals := 1, code := object_method_1_code, exceptionTable := #[], attributes := #[] }
def k0m0 : Method := { name := "<init>", desc := "()V", sig := { parameters := [], returnType := none }, accessFlags := 1, code := some k0c0 }
/-- java/lang/Object -/
def k0 : Class := { plain "java/lang/Object" none with
  accessFlags := 33
  interfaces := #[]
  cf := some (fileOf pool0 8 #[] #[{ accessFlags := 1, nameIndex := 5, descriptorIndex := 6, attributes := #[] }] 33 0 #[] #[])
  fields := #[]
  methods := #[k0m0]
  instanceTypes := #[]
  staticTypes := #[]
  resolved := Array.replicate 124 none
  statics := none }

def pool1 : Array CpInfo := pool [(2, .class_ 4), (1, u "java/lang/Object"), (0, u "<init>"), (0, u "()V"), (0, .integer 2147483647), (0, .class_ 9), (0, u "java/lang/String"), (0, .methodref 8 11), (0, .nameAndType 5 12), (0, u "([C)V"), (0, .methodref 14 15), (0, .class_ 16), (0, .nameAndType 17 18), (0, u "com/example/under50k/under50k/SitemapReader"), (0, u "isCut"), (0, u "(Ljava/lang/String;)Z"), (0, .class_ 20), (0, u "com/example/under50k/under50k/SitemapReaderIsCutPinLaw"), (2, u "law"), (0, u "(IIII)Z")] 5

def k1m0 : Method := { name := "<init>", desc := "()V", sig := { parameters := [], returnType := none }, accessFlags := 2, code := none }
def k1c1 : Code := { maxStack := 4, maxLocals := 9, code := code, exceptionTable := #[], attributes := #[] }
def k1m1 : Method := { name := "law", desc := "(IIII)Z", sig := { parameters := [.int, .int, .int, .int], returnType := some .boolean }, accessFlags := 9, code := some k1c1 }
/-- com/example/under50k/under50k/SitemapReaderIsCutPinLaw -/
def k1 : Class := { plain "com/example/under50k/under50k/SitemapReaderIsCutPinLaw" (some 0) with
  accessFlags := 49
  interfaces := #[]
  cf := some (fileOf pool1 19 #[] #[{ accessFlags := 2, nameIndex := 5, descriptorIndex := 6, attributes := #[] }, { accessFlags := 9, nameIndex := 23, descriptorIndex := 24, attributes := #[] }] 49 2 #[] #[])
  fields := #[]
  methods := #[k1m0, k1m1]
  instanceTypes := #[]
  staticTypes := #[]
  resolved := Array.replicate 30 none
  statics := none }

def pool2 : Array CpInfo := pool [(1, .class_ 2), (0, u "java/io/Serializable"), (0, .class_ 4), (0, u "java/lang/Object")] 2

/-- java/io/Serializable -/
def k2 : Class := { plain "java/io/Serializable" (some 0) with
  accessFlags := 1537
  interfaces := #[]
  cf := some (fileOf pool2 1 #[] #[] 1537 3 #[] #[])
  fields := #[]
  methods := #[]
  instanceTypes := #[]
  staticTypes := #[]
  resolved := Array.replicate 7 none
  statics := none }

def pool3 : Array CpInfo := pool [(1, .class_ 2), (0, u "java/lang/Comparable"), (0, .class_ 4), (0, u "java/lang/Object")] 7

/-- java/lang/Comparable -/
def k3 : Class := { plain "java/lang/Comparable" (some 0) with
  accessFlags := 1537
  interfaces := #[]
  cf := some (fileOf pool3 1 #[] #[] 1537 3 #[] #[])
  fields := #[]
  methods := #[]
  instanceTypes := #[]
  staticTypes := #[]
  resolved := Array.replicate 12 none
  statics := none }

def pool4 : Array CpInfo := pool [(2, .class_ 4), (1, u "java/lang/CharSequence"), (42, .class_ 48), (0, u "java/lang/CharSequence$1CodePointIterator"), (10, .class_ 60), (0, u "java/lang/CharSequence$1CharIterator"), (5, .class_ 67), (0, u "java/lang/Object")] 63

/-- java/lang/CharSequence -/
def k4 : Class := { plain "java/lang/CharSequence" (some 0) with
  accessFlags := 1537
  interfaces := #[]
  cf := some (fileOf pool4 2 #[.nestMembers #[47, 59]] #[] 1537 66 #[] #[])
  fields := #[]
  methods := #[]
  instanceTypes := #[]
  staticTypes := #[]
  resolved := Array.replicate 131 none
  statics := none }

def pool5 : Array CpInfo := pool [(1, .class_ 2), (0, u "java/lang/constant/Constable"), (0, .class_ 4), (0, u "java/lang/Object")] 6

/-- java/lang/constant/Constable -/
def k5 : Class := { plain "java/lang/constant/Constable" (some 0) with
  accessFlags := 1537
  interfaces := #[]
  cf := some (fileOf pool5 1 #[] #[] 1537 3 #[] #[])
  fields := #[]
  methods := #[]
  instanceTypes := #[]
  staticTypes := #[]
  resolved := Array.replicate 11 none
  statics := none }

def pool6 : Array CpInfo := pool [(1, .class_ 2), (0, u "java/lang/constant/ConstantDesc"), (0, .class_ 4), (0, u "java/lang/Object")] 32

/-- java/lang/constant/ConstantDesc -/
def k6 : Class := { plain "java/lang/constant/ConstantDesc" (some 0) with
  accessFlags := 1537
  interfaces := #[]
  cf := some (fileOf pool6 1 #[] #[] 1537 3 #[] #[])
  fields := #[]
  methods := #[]
  instanceTypes := #[]
  staticTypes := #[]
  resolved := Array.replicate 37 none
  statics := none }

def pool7 : Array CpInfo := pool [(1, .methodref 2 3), (0, .class_ 4), (0, .nameAndType 5 6), (0, u "java/lang/Object"), (0, u "<init>"), (0, u "()V"), (0, .string 8), (0, u ""), (0, .fieldref 10 11), (0, .class_ 12), (0, .nameAndType 13 14), (0, u "java/lang/String"), (0, u "value"), (0, u "[B"), (0, .fieldref 10 16), (0, .nameAndType 17 18), (0, u "coder"), (0, u "B"), (2, u "hash"), (0, u "I"), (2, u "hashIsZero"), (0, u "Z"), (0, .methodref 10 28), (0, .nameAndType 5 29), (0, u "([CIILjava/lang/Void;)V"), (8, .fieldref 10 39), (0, .nameAndType 40 26), (0, u "COMPACT_STRINGS"), (1, .class_ 44), (1, u "java/lang/StringUTF16"), (0, u "compress"), (1, .methodref 42 48), (0, .nameAndType 49 50), (0, u "coderFromArrayLen"), (0, u "([BI)B"), (126, .methodref 42 178), (0, .nameAndType 45 179), (0, u "([CII)[B"), (154, u "()I"), (0, .methodref 10 336), (0, .nameAndType 17 337), (0, u "()B"), (169, u "length"), (67, .class_ 576), (0, u "java/lang/CharSequence"), (22, u "CASE_INSENSITIVE_ORDER"), (0, u "Ljava/util/Comparator;"), (409, u "([C)V"), (90, u "serialPersistentFields"), (0, u "[Ljava/io/ObjectStreamField;"), (0, .class_ 1104), (0, u "java/lang/String$CaseInsensitiveComparator"), (1, .class_ 1107), (0, u "java/io/Serializable"), (0, .class_ 1109), (0, u "java/lang/Comparable"), (0, .class_ 1111), (0, u "java/lang/constant/Constable"), (0, .class_ 1113), (0, u "java/lang/constant/ConstantDesc"), (2, u "serialVersionUID"), (0, u "J"), (3, u "REPL"), (0, u "C"), (2, u "LATIN1"), (1, u "UTF16")] 323

def k7m0 : Method := { name := "<init>", desc := "()V", sig := { parameters := [], returnType := none }, accessFlags := 1, code := none }
def k7c1 : Code := { maxStack := 5, maxLocals := 2, code := jdk_42_method_3_code, exceptionTable := #[], attributes := #[] }
def k7m1 : Method := { name := "<init>", desc := "([C)V", sig := { parameters := [(.array .char)], returnType := none }, accessFlags := 1, code := some k7c1 }
def k7c2 : Code := { maxStack := 2, maxLocals := 1, code := jdk_42_method_54_code, exceptionTable := #[], attributes := #[] }
def k7m2 : Method := { name := "length", desc := "()I", sig := { parameters := [], returnType := some .int }, accessFlags := 1, code := some k7c2 }
def k7c3 : Code := { maxStack := 4, maxLocals := 6, code := jdk_42_method_149_code, exceptionTable := #[], attributes := #[] }
def k7m3 : Method := { name := "<init>", desc := "([CIILjava/lang/Void;)V", sig := { parameters := [(.array .char), .int, .int, (.object "java/lang/Void")], returnType := none }, accessFlags := 2, code := some k7c3 }
def k7c4 : Code := { maxStack := 1, maxLocals := 1, code := jdk_42_method_152_code, exceptionTable := #[], attributes := #[] }
def k7m4 : Method := { name := "coder", desc := "()B", sig := { parameters := [], returnType := some .byte }, accessFlags := 0, code := some k7c4 }
/-- java/lang/String -/
def k7 : Class := { plain "java/lang/String" (some 0) with
  accessFlags := 49
  interfaces := #[2, 3, 4, 5, 6]
  cf := some (fileOf pool7 10 #[.nestMembers #[1103]] #[{ accessFlags := 1, nameIndex := 5, descriptorIndex := 6, attributes := #[] }, { accessFlags := 1, nameIndex := 5, descriptorIndex := 1010, attributes := #[] }, { accessFlags := 1, nameIndex := 507, descriptorIndex := 334, attributes := #[] }, { accessFlags := 2, nameIndex := 5, descriptorIndex := 29, attributes := #[] }, { accessFlags := 0, nameIndex := 17, descriptorIndex := 337, attributes := #[] }] 49 2 #[1106, 1108, 575, 1110, 1112] #[{ accessFlags := 18, nameIndex := 13, descriptorIndex := 14, attributes := #[] }, { accessFlags := 18, nameIndex := 17, descriptorIndex := 18, attributes := #[] }, { accessFlags := 2, nameIndex := 21, descriptorIndex := 22, attributes := #[] }, { accessFlags := 2, nameIndex := 25, descriptorIndex := 26, attributes := #[] }, { accessFlags := 26, nameIndex := 1116, descriptorIndex := 1117, attributes := #[] }, { accessFlags := 24, nameIndex := 40, descriptorIndex := 26, attributes := #[] }, { accessFlags := 26, nameIndex := 1101, descriptorIndex := 1102, attributes := #[] }, { accessFlags := 26, nameIndex := 1121, descriptorIndex := 1122, attributes := #[] }, { accessFlags := 25, nameIndex := 599, descriptorIndex := 600, attributes := #[] }, { accessFlags := 24, nameIndex := 1125, descriptorIndex := 18, attributes := #[] }, { accessFlags := 24, nameIndex := 1127, descriptorIndex := 18, attributes := #[] }])
  fields := #[{ name := "value", type := (.array .byte), accessFlags := 18, slot := 0, constantValue := 0 }, { name := "coder", type := .byte, accessFlags := 18, slot := 1, constantValue := 0 }, { name := "hash", type := .int, accessFlags := 2, slot := 2, constantValue := 0 }, { name := "hashIsZero", type := .boolean, accessFlags := 2, slot := 3, constantValue := 0 }, { name := "serialVersionUID", type := .long, accessFlags := 26, slot := 0, constantValue := 0 }, { name := "COMPACT_STRINGS", type := .boolean, accessFlags := 24, slot := 1, constantValue := 0 }, { name := "serialPersistentFields", type := (.array (.object "java/io/ObjectStreamField")), accessFlags := 26, slot := 2, constantValue := 0 }, { name := "REPL", type := .char, accessFlags := 26, slot := 3, constantValue := 0 }, { name := "CASE_INSENSITIVE_ORDER", type := (.object "java/util/Comparator"), accessFlags := 25, slot := 4, constantValue := 0 }, { name := "LATIN1", type := .byte, accessFlags := 24, slot := 5, constantValue := 0 }, { name := "UTF16", type := .byte, accessFlags := 24, slot := 6, constantValue := 0 }]
  methods := #[k7m0, k7m1, k7m2, k7m3, k7m4]
  instanceTypes := #[(.array .byte), .byte, .int, .boolean]
  staticTypes := #[.long, .boolean, (.array (.object "java/io/ObjectStreamField")), .char, (.object "java/util/Comparator"), .byte, .byte]
  resolved := Array.replicate 1451 none
  statics := some 0 }

def pool8 : Array CpInfo := pool [(4, .class_ 6), (1, u "java/lang/Object"), (0, u "<init>"), (0, u "()V"), (0, .methodref 10 11), (0, .class_ 12), (0, .nameAndType 13 14), (0, u "java/lang/String"), (0, u "length"), (0, u "()I"), (0, .class_ 16), (0, u "com/example/under50k/under50k/SitemapReader"), (44, .class_ 63), (1, u "com/example/under50k/under50k/SitemapReader$FileInput"), (16, .class_ 81), (0, u "com/example/under50k/under50k/SitemapReader$RootKind"), (5, .class_ 88), (0, u "com/example/under50k/under50k/SitemapReader$NotWellFormedException"), (0, .class_ 90), (0, u "com/example/under50k/under50k/SitemapReader$BrokenGzipException"), (13, .class_ 105), (0, u "com/example/under50k/under50k/SitemapReader$Handler"), (9, .class_ 116), (0, u "com/example/under50k/under50k/SitemapReader$StopAtRoot"), (0, .class_ 118), (0, u "com/example/under50k/under50k/SitemapReader$ListenerFailure"), (74, u "SPACE_AROUND_IGNORED"), (0, u "Ljava/util/Set;"), (2, u "XML_SPACE"), (0, u "Ljava/lang/String;"), (3, u "MAX_VALUE_LENGTH"), (0, u "I"), (1, u "CDATA_CHUNK"), (0, u "MAX_DEPTH"), (1, u "MAX_NAMES"), (1, u "MAX_NAME_CHARACTERS"), (3, u "isCut"), (0, u "(Ljava/lang/String;)Z"), (8, .class_ 225), (0, u "com/example/under50k/under50k/SitemapReader$Listener"), (4, .class_ 231), (0, u "com/example/under50k/under50k/SitemapReader$KeptNames"), (0, .class_ 233), (0, u "com/example/under50k/under50k/SitemapReader$PartValue"), (0, .class_ 235), (0, u "com/example/under50k/under50k/SitemapReader$Listing")] 15

def k8m0 : Method := { name := "<init>", desc := "()V", sig := { parameters := [], returnType := none }, accessFlags := 2, code := none }
def k8c1 : Code := { maxStack := 2, maxLocals := 1, code := prog_32_method_2_code, exceptionTable := #[], attributes := #[] }
def k8m1 : Method := { name := "isCut", desc := "(Ljava/lang/String;)Z", sig := { parameters := [(.object "java/lang/String")], returnType := some .boolean }, accessFlags := 8, code := some k8c1 }
/-- com/example/under50k/under50k/SitemapReader -/
def k8 : Class := { plain "com/example/under50k/under50k/SitemapReader" (some 0) with
  accessFlags := 32
  interfaces := #[]
  cf := some (fileOf pool8 15 #[.nestMembers #[104, 230, 232, 80, 61, 117, 115, 234, 89, 87, 224]] #[{ accessFlags := 2, nameIndex := 7, descriptorIndex := 8, attributes := #[] }, { accessFlags := 8, nameIndex := 214, descriptorIndex := 215, attributes := #[] }] 32 4 #[] #[{ accessFlags := 26, nameIndex := 193, descriptorIndex := 194, attributes := #[] }, { accessFlags := 26, nameIndex := 197, descriptorIndex := 198, attributes := #[] }, { accessFlags := 24, nameIndex := 202, descriptorIndex := 203, attributes := #[] }, { accessFlags := 26, nameIndex := 205, descriptorIndex := 203, attributes := #[] }, { accessFlags := 26, nameIndex := 206, descriptorIndex := 203, attributes := #[] }, { accessFlags := 26, nameIndex := 208, descriptorIndex := 203, attributes := #[] }, { accessFlags := 26, nameIndex := 210, descriptorIndex := 203, attributes := #[] }])
  fields := #[{ name := "SPACE_AROUND_IGNORED", type := (.object "java/util/Set"), accessFlags := 26, slot := 0, constantValue := 0 }, { name := "XML_SPACE", type := (.object "java/lang/String"), accessFlags := 26, slot := 1, constantValue := 0 }, { name := "MAX_VALUE_LENGTH", type := .int, accessFlags := 24, slot := 2, constantValue := 0 }, { name := "CDATA_CHUNK", type := .int, accessFlags := 26, slot := 3, constantValue := 0 }, { name := "MAX_DEPTH", type := .int, accessFlags := 26, slot := 4, constantValue := 0 }, { name := "MAX_NAMES", type := .int, accessFlags := 26, slot := 5, constantValue := 0 }, { name := "MAX_NAME_CHARACTERS", type := .int, accessFlags := 26, slot := 6, constantValue := 0 }]
  methods := #[k8m0, k8m1]
  instanceTypes := #[]
  staticTypes := #[(.object "java/util/Set"), (.object "java/lang/String"), .int, .int, .int, .int, .int]
  resolved := Array.replicate 251 none
  statics := none }

def pool9 : Array CpInfo := pool [(6, .class_ 8), (1, u "java/lang/Object"), (0, u "<init>"), (0, u "()V"), (1, .class_ 14), (1, u "java/lang/StringUTF16"), (31, u "$assertionsDisabled"), (0, u "Z"), (13, u "HI_BYTE_SHIFT"), (0, u "I"), (2, u "LO_BYTE_SHIFT"), (49, .methodref 12 116), (0, .nameAndType 117 118), (0, u "compress"), (0, u "([CI[BII)I"), (3, u "([CII)[B"), (138, u "coderFromArrayLen"), (0, u "([BI)B"), (106, .class_ 371), (1, u "java/lang/StringUTF16$LinesSpliterator"), (58, u "MAX_LENGTH"), (196, .class_ 628), (0, u "java/lang/StringUTF16$CodePointsSpliterator"), (0, .class_ 630), (0, u "java/lang/StringUTF16$CharsSpliterator")] 4

def k9m0 : Method := { name := "<init>", desc := "()V", sig := { parameters := [], returnType := none }, accessFlags := 0, code := none }
def k9c1 : Code := { maxStack := 2, maxLocals := 2, code := jdk_52_method_15_code, exceptionTable := #[], attributes := #[] }
def k9m1 : Method := { name := "coderFromArrayLen", desc := "([BI)B", sig := { parameters := [(.array .byte), .int], returnType := some .byte }, accessFlags := 8, code := some k9c1 }
def k9c2 : Code := { maxStack := 5, maxLocals := 6, code := jdk_52_method_16_code, exceptionTable := #[], attributes := #[] }
def k9m2 : Method := { name := "compress", desc := "([CII)[B", sig := { parameters := [(.array .char), .int, .int], returnType := some (.array .byte) }, accessFlags := 9, code := some k9c2 }
def k9c3 : Code := { maxStack := 3, maxLocals := 7, code := jdk_52_method_21_code, exceptionTable := #[], attributes := #[] }
def k9m3 : Method := { name := "compress", desc := "([CI[BII)I", sig := { parameters := [(.array .char), .int, (.array .byte), .int, .int], returnType := some .int }, accessFlags := 9, code := some k9c3 }
/-- java/lang/StringUTF16 -/
def k9 : Class := { plain "java/lang/StringUTF16" (some 0) with
  accessFlags := 48
  interfaces := #[]
  cf := some (fileOf pool9 12 #[.nestMembers #[627, 629, 369]] #[{ accessFlags := 0, nameIndex := 9, descriptorIndex := 10, attributes := #[] }, { accessFlags := 8, nameIndex := 261, descriptorIndex := 262, attributes := #[] }, { accessFlags := 9, nameIndex := 117, descriptorIndex := 122, attributes := #[] }, { accessFlags := 9, nameIndex := 117, descriptorIndex := 118, attributes := #[] }] 48 6 #[] #[{ accessFlags := 26, nameIndex := 61, descriptorIndex := 62, attributes := #[] }, { accessFlags := 26, nameIndex := 65, descriptorIndex := 62, attributes := #[] }, { accessFlags := 24, nameIndex := 430, descriptorIndex := 62, attributes := #[] }, { accessFlags := 4120, nameIndex := 46, descriptorIndex := 47, attributes := #[] }])
  fields := #[{ name := "HI_BYTE_SHIFT", type := .int, accessFlags := 26, slot := 0, constantValue := 0 }, { name := "LO_BYTE_SHIFT", type := .int, accessFlags := 26, slot := 1, constantValue := 0 }, { name := "MAX_LENGTH", type := .int, accessFlags := 24, slot := 2, constantValue := 0 }, { name := "$assertionsDisabled", type := .boolean, accessFlags := 4120, slot := 3, constantValue := 0 }]
  methods := #[k9m0, k9m1, k9m2, k9m3]
  instanceTypes := #[]
  staticTypes := #[.int, .int, .int, .boolean]
  resolved := Array.replicate 635 none
  statics := none }

def pool10 : Array CpInfo := pool [(4, .class_ 6), (1, u "java/lang/Object"), (0, u "<init>"), (0, u "()V"), (5, .class_ 16), (1, u "java/lang/StringLatin1"), (104, u "$assertionsDisabled"), (0, u "Z"), (98, .class_ 223), (1, u "java/lang/StringLatin1$LinesSpliterator"), (166, .class_ 391), (0, u "java/lang/StringLatin1$CharsSpliterator")] 3

def k10m0 : Method := { name := "<init>", desc := "()V", sig := { parameters := [], returnType := none }, accessFlags := 0, code := none }
/-- java/lang/StringLatin1 -/
def k10 : Class := { plain "java/lang/StringLatin1" (some 0) with
  accessFlags := 48
  interfaces := #[]
  cf := some (fileOf pool10 14 #[.nestMembers #[390, 221]] #[{ accessFlags := 0, nameIndex := 7, descriptorIndex := 8, attributes := #[] }] 48 4 #[] #[{ accessFlags := 4120, nameIndex := 121, descriptorIndex := 122, attributes := #[] }])
  fields := #[{ name := "$assertionsDisabled", type := .boolean, accessFlags := 4120, slot := 0, constantValue := 0 }]
  methods := #[k10m0]
  instanceTypes := #[]
  staticTypes := #[.boolean]
  resolved := Array.replicate 395 none
  statics := none }

def pool11 : Array CpInfo := pool [(2, .class_ 4), (1, u "java/lang/Object"), (0, u "<init>"), (0, u "()V"), (17, .class_ 26), (1, u "jdk/internal/util/Preconditions"), (28, .class_ 56), (0, u "jdk/internal/util/Preconditions$4"), (57, .class_ 115), (0, u "jdk/internal/util/Preconditions$1"), (7, u "SIOOBE_FORMATTER"), (0, u "Ljava/util/function/BiFunction;"), (0, .class_ 126), (0, u "jdk/internal/util/Preconditions$2"), (3, u "AIOOBE_FORMATTER"), (0, .class_ 132), (0, u "jdk/internal/util/Preconditions$3"), (3, u "IOOBE_FORMATTER")] 57

def k11m0 : Method := { name := "<init>", desc := "()V", sig := { parameters := [], returnType := none }, accessFlags := 1, code := none }
/-- jdk/internal/util/Preconditions -/
def k11 : Class := { plain "jdk/internal/util/Preconditions" (some 0) with
  accessFlags := 33
  interfaces := #[]
  cf := some (fileOf pool11 24 #[.nestMembers #[55, 131, 125, 114]] #[{ accessFlags := 1, nameIndex := 5, descriptorIndex := 6, attributes := #[] }] 33 2 #[] #[{ accessFlags := 25, nameIndex := 123, descriptorIndex := 124, attributes := #[] }, { accessFlags := 25, nameIndex := 130, descriptorIndex := 124, attributes := #[] }, { accessFlags := 25, nameIndex := 136, descriptorIndex := 124, attributes := #[] }])
  fields := #[{ name := "SIOOBE_FORMATTER", type := (.object "java/util/function/BiFunction"), accessFlags := 25, slot := 0, constantValue := 0 }, { name := "AIOOBE_FORMATTER", type := (.object "java/util/function/BiFunction"), accessFlags := 25, slot := 1, constantValue := 0 }, { name := "IOOBE_FORMATTER", type := (.object "java/util/function/BiFunction"), accessFlags := 25, slot := 2, constantValue := 0 }]
  methods := #[k11m0]
  instanceTypes := #[]
  staticTypes := #[(.object "java/util/function/BiFunction"), (.object "java/util/function/BiFunction"), (.object "java/util/function/BiFunction")]
  resolved := Array.replicate 194 none
  statics := some 1 }

def pool12 : Array CpInfo := pool [(9, u "<init>"), (6, .class_ 18), (1, u "java/lang/Object"), (0, u "()V"), (1, .class_ 23), (1, u "jdk/internal/util/ArraysSupport"), (0, u "LOG2_ARRAY_LONG_INDEX_SCALE"), (0, u "I"), (2, u "U"), (0, u "Ljdk/internal/misc/Unsafe;"), (8, u "BIG_ENDIAN"), (0, u "Z"), (8, u "LOG2_BYTE_BIT_SIZE"), (4, u "LOG2_ARRAY_INT_INDEX_SCALE"), (54, u "JLA"), (0, u "Ljdk/internal/access/JavaLangAccess;"), (11, u "LOG2_ARRAY_BOOLEAN_INDEX_SCALE"), (9, u "LOG2_ARRAY_BYTE_INDEX_SCALE"), (5, u "LOG2_ARRAY_CHAR_INDEX_SCALE"), (5, u "LOG2_ARRAY_SHORT_INDEX_SCALE"), (18, u "LOG2_ARRAY_FLOAT_INDEX_SCALE"), (24, u "LOG2_ARRAY_DOUBLE_INDEX_SCALE"), (89, u "T_BOOLEAN"), (2, u "T_CHAR"), (1, u "T_FLOAT"), (1, u "T_DOUBLE"), (1, u "T_BYTE"), (1, u "T_SHORT"), (1, u "T_INT"), (1, u "T_LONG"), (1, u "SOFT_MAX_ARRAY_LENGTH")] 83

def k12m0 : Method := { name := "<init>", desc := "()V", sig := { parameters := [], returnType := none }, accessFlags := 2, code := none }
/-- jdk/internal/util/ArraysSupport -/
def k12 : Class := { plain "jdk/internal/util/ArraysSupport" (some 0) with
  accessFlags := 33
  interfaces := #[]
  cf := some (fileOf pool12 21 #[] #[{ accessFlags := 2, nameIndex := 9, descriptorIndex := 19, attributes := #[] }] 33 16 #[] #[{ accessFlags := 24, nameIndex := 28, descriptorIndex := 29, attributes := #[] }, { accessFlags := 26, nameIndex := 38, descriptorIndex := 39, attributes := #[] }, { accessFlags := 25, nameIndex := 121, descriptorIndex := 25, attributes := #[] }, { accessFlags := 25, nameIndex := 131, descriptorIndex := 25, attributes := #[] }, { accessFlags := 25, nameIndex := 137, descriptorIndex := 25, attributes := #[] }, { accessFlags := 25, nameIndex := 143, descriptorIndex := 25, attributes := #[] }, { accessFlags := 25, nameIndex := 53, descriptorIndex := 25, attributes := #[] }, { accessFlags := 25, nameIndex := 24, descriptorIndex := 25, attributes := #[] }, { accessFlags := 25, nameIndex := 162, descriptorIndex := 25, attributes := #[] }, { accessFlags := 25, nameIndex := 187, descriptorIndex := 25, attributes := #[] }, { accessFlags := 26, nameIndex := 48, descriptorIndex := 25, attributes := #[] }, { accessFlags := 25, nameIndex := 277, descriptorIndex := 25, attributes := #[] }, { accessFlags := 25, nameIndex := 280, descriptorIndex := 25, attributes := #[] }, { accessFlags := 25, nameIndex := 282, descriptorIndex := 25, attributes := #[] }, { accessFlags := 25, nameIndex := 284, descriptorIndex := 25, attributes := #[] }, { accessFlags := 25, nameIndex := 286, descriptorIndex := 25, attributes := #[] }, { accessFlags := 25, nameIndex := 288, descriptorIndex := 25, attributes := #[] }, { accessFlags := 25, nameIndex := 290, descriptorIndex := 25, attributes := #[] }, { accessFlags := 25, nameIndex := 292, descriptorIndex := 25, attributes := #[] }, { accessFlags := 26, nameIndex := 108, descriptorIndex := 109, attributes := #[] }, { accessFlags := 25, nameIndex := 294, descriptorIndex := 25, attributes := #[] }])
  fields := #[{ name := "U", type := (.object "jdk/internal/misc/Unsafe"), accessFlags := 24, slot := 0, constantValue := 0 }, { name := "BIG_ENDIAN", type := .boolean, accessFlags := 26, slot := 1, constantValue := 0 }, { name := "LOG2_ARRAY_BOOLEAN_INDEX_SCALE", type := .int, accessFlags := 25, slot := 2, constantValue := 0 }, { name := "LOG2_ARRAY_BYTE_INDEX_SCALE", type := .int, accessFlags := 25, slot := 3, constantValue := 0 }, { name := "LOG2_ARRAY_CHAR_INDEX_SCALE", type := .int, accessFlags := 25, slot := 4, constantValue := 0 }, { name := "LOG2_ARRAY_SHORT_INDEX_SCALE", type := .int, accessFlags := 25, slot := 5, constantValue := 0 }, { name := "LOG2_ARRAY_INT_INDEX_SCALE", type := .int, accessFlags := 25, slot := 6, constantValue := 0 }, { name := "LOG2_ARRAY_LONG_INDEX_SCALE", type := .int, accessFlags := 25, slot := 7, constantValue := 0 }, { name := "LOG2_ARRAY_FLOAT_INDEX_SCALE", type := .int, accessFlags := 25, slot := 8, constantValue := 0 }, { name := "LOG2_ARRAY_DOUBLE_INDEX_SCALE", type := .int, accessFlags := 25, slot := 9, constantValue := 0 }, { name := "LOG2_BYTE_BIT_SIZE", type := .int, accessFlags := 26, slot := 10, constantValue := 0 }, { name := "T_BOOLEAN", type := .int, accessFlags := 25, slot := 11, constantValue := 0 }, { name := "T_CHAR", type := .int, accessFlags := 25, slot := 12, constantValue := 0 }, { name := "T_FLOAT", type := .int, accessFlags := 25, slot := 13, constantValue := 0 }, { name := "T_DOUBLE", type := .int, accessFlags := 25, slot := 14, constantValue := 0 }, { name := "T_BYTE", type := .int, accessFlags := 25, slot := 15, constantValue := 0 }, { name := "T_SHORT", type := .int, accessFlags := 25, slot := 16, constantValue := 0 }, { name := "T_INT", type := .int, accessFlags := 25, slot := 17, constantValue := 0 }, { name := "T_LONG", type := .int, accessFlags := 25, slot := 18, constantValue := 0 }, { name := "JLA", type := (.object "jdk/internal/access/JavaLangAccess"), accessFlags := 26, slot := 19, constantValue := 0 }, { name := "SOFT_MAX_ARRAY_LENGTH", type := .int, accessFlags := 25, slot := 20, constantValue := 0 }]
  methods := #[k12m0]
  instanceTypes := #[]
  staticTypes := #[(.object "jdk/internal/misc/Unsafe"), .boolean, .int, .int, .int, .int, .int, .int, .int, .int, .int, .int, .int, .int, .int, .int, .int, .int, .int, (.object "jdk/internal/access/JavaLangAccess"), .int]
  resolved := Array.replicate 378 none
  statics := none }

def pool13 : Array CpInfo := pool [(1, u "java/lang/Cloneable"), (0, .class_ 1), (0, u "java/lang/Object"), (0, .class_ 3)] 3

/-- java/lang/Cloneable -/
def k13 : Class := { plain "java/lang/Cloneable" (some 0) with
  accessFlags := 1537
  interfaces := #[]
  cf := some (fileOf pool13 2 #[] #[] 1537 4 #[] #[])
  fields := #[]
  methods := #[]
  instanceTypes := #[]
  staticTypes := #[]
  resolved := Array.replicate 8 none
  statics := none }

/-- the primitive byte -/
def k14 : Class := { plain "byte" none with kind := .primitive 'B', accessFlags := 0x411 }
/-- [B -/
def k15 : Class := { plain "[B" (some 0) with kind := .array 14 .byte, interfaces := #[13, 2], accessFlags := 1041 }

/-- the primitive char -/
def k16 : Class := { plain "char" none with kind := .primitive 'C', accessFlags := 0x411 }
/-- [C -/
def k17 : Class := { plain "[C" (some 0) with kind := .array 16 .char, interfaces := #[13, 2], accessFlags := 1041 }

/-- the primitive int -/
def k18 : Class := { plain "int" none with kind := .primitive 'I', accessFlags := 0x411 }
/-- [I -/
def k19 : Class := { plain "[I" (some 0) with kind := .array 18 .int, interfaces := #[13, 2], accessFlags := 1041 }

def heap : Heap := #[{ cls := 7, slots := #[.long 0, .int 1, .null, .int 0, .null, .int 0, .int 0], vm := .statics 7 },
  { cls := 11, slots := #[.null, .null, .null], vm := .statics 11 }]
def classes : Array Class := #[k0, k1, k2, k3, k4, k5, k6, k7, k8, k9, k10, k11, k12, k13, k14, k15, k16, k17, k18, k19]
def interned : List (Array UInt16 × Addr) := []
def slotsUsed : Nat := 10
def theMethod : MethodId := ⟨1, 1⟩
def args0 : Array Value := #[.int 5, .int 3, .int 65, .int 7]
def aboutOver (below : List Frame) : State where
  vm := { classes := classes, interned := interned.toArray }
  heap := heap
  slotsUsed := slotsUsed
  threads := #[{ frames := .invoking theMethod args0 :: below }]
def below0 : List Frame := [.native { method := ⟨0, 0⟩, args := #[] }]
def about1 : State := aboutOver below0
def p0 : Program := .bare "" "" ""
def e0 : Env := launch0.env 0 0 0
theorem w_frames : about1.frames = Frame.invoking theMethod args0 :: below0 := rfl
set_option maxRecDepth 65536 in
theorem w_args : argsFit about1.vm theMethod args0 = true := by decide +kernel
set_option maxRecDepth 65536 in
theorem w_heap : heapFits about1 = true := by decide +kernel
set_option maxRecDepth 65536 in
theorem w_runnable : about1.curStatus? = some .runnable := by decide +kernel
set_option maxRecDepth 65536 in
theorem w_alone : about1.alone = true := by decide +kernel
set_option maxRecDepth 65536 in
theorem w_named : about1.methodNamed? x = some theMethod := by decide +kernel
set_option maxRecDepth 65536 in
theorem w_hears : about1.hears theMethod below0 = true := by decide +kernel
set_option maxRecDepth 65536 in
theorem w_ripe : about1.ripe theMethod args0 below0 = true := by decide +kernel
theorem w_running : about1.status = .running := rfl
set_option maxRecDepth 65536 in
theorem w_room : about1.hasRoom e0.platform room_1 = true :=
  launch0.hasRoom_least _ room_1 (by decide +kernel) (by decide +kernel) (by decide +kernel) (by decide +kernel) (by decide +kernel) (by decide +kernel)
theorem allAtoms_all (ts : List Jvm.Cond) (a : Array Jvm.Value) (st : Jvm.State) : (allAtoms ts).before a st = ts.all (fun c => c.before a st) := by
  induction ts with
  | nil => rfl
  | cons c t ih =>
    show (Jvm.Cond.and c (allAtoms t)).before a st = _
    rw [Jvm.Cond.before_and, ih, List.all_cons]
def words1 : List Jvm.Cond := Jvm.Cond.code x code maxLocals ret :: tables_1
/-- a 'code' word, met by the world's own term for the bytes: nothing is compared byte by byte -/
theorem code_word {y : MethodName} {bytes : ByteArray} {mx : Nat} {rt : Option FieldType} {a : Array Value} {s : State} {m : MethodId} {meth : Method} {c : Code} (h1 : s.methodNamed? y = some m) (h2 : s.vm.method? m = some meth) (h3 : meth.code = some c) (h4 : c.code = bytes)
    (h5 : (c.maxLocals == mx && c.exceptionTable.isEmpty && decide (c.maxStack ≤ mostOperands) && decide (meth.sig.returnType = rt) && !meth.locks && decide (parseMethodDescriptor y.desc = some meth.sig)) = true) : (Jvm.Cond.code y bytes mx rt).before a s = true := by
  simp only [Bool.and_eq_true, beq_iff_eq, Bool.not_eq_true', decide_eq_true_eq] at h5
  obtain ⟨⟨⟨⟨⟨g1, g2⟩, g3⟩, g4⟩, g5⟩, g6⟩ := h5
  simp [Cond.before, Cond.holds, Cond.value, h1, h2, h3, h4, g1, g2, g3, g4, g5, g6]
def isCode : Jvm.Cond → Bool
  | .code _ _ _ _ => true
  | _ => false
theorem all_split {L : List Jvm.Cond} {P : Jvm.Cond → Bool} (h1 : L.all (fun c => isCode c || P c) = true) (h2 : ∀ c ∈ L.filter isCode, P c = true) : L.all P = true := by
  refine List.all_eq_true.mpr fun c hc => ?_
  have h := List.all_eq_true.mp h1 c hc
  rcases Bool.eq_false_or_eq_true (isCode c) with hi | hi
  · exact h2 c (List.mem_filter.mpr ⟨hc, hi⟩)
  · simpa [hi] using h
set_option maxRecDepth 65536 in
theorem w_c0 : (Jvm.Cond.code x code maxLocals ret).before args0 about1 = true := code_word (m := ⟨1, 1⟩) (meth := k1m1) (c := k1c1) (by decide +kernel) rfl rfl rfl (by decide +kernel)
set_option maxRecDepth 65536 in
theorem w_c1 : (Jvm.Cond.code ({ cls := "java/lang/String", name := "<init>", desc := "([C)V" } : Jvm.MethodName) jdk_42_method_3_code (2 : Nat) (Option.none : Option Jvm.ClassFile.FieldType)).before args0 about1 = true := code_word (m := ⟨7, 1⟩) (meth := k7m1) (c := k7c1) (by decide +kernel) rfl rfl rfl (by decide +kernel)
set_option maxRecDepth 65536 in
theorem w_c2 : (Jvm.Cond.code ({ cls := "java/lang/String", name := "<init>", desc := "([CIILjava/lang/Void;)V" } : Jvm.MethodName) jdk_42_method_149_code (6 : Nat) (Option.none : Option Jvm.ClassFile.FieldType)).before args0 about1 = true := code_word (m := ⟨7, 3⟩) (meth := k7m3) (c := k7c3) (by decide +kernel) rfl rfl rfl (by decide +kernel)
set_option maxRecDepth 65536 in
theorem w_c3 : (Jvm.Cond.code ({ cls := "java/lang/Object", name := "<init>", desc := "()V" } : Jvm.MethodName) object_method_1_code (1 : Nat) (Option.none : Option Jvm.ClassFile.FieldType)).before args0 about1 = true := code_word (m := ⟨0, 0⟩) (meth := k0m0) (c := k0c0) (by decide +kernel) rfl rfl rfl (by decide +kernel)
set_option maxRecDepth 65536 in
theorem w_c4 : (Jvm.Cond.code ({ cls := "com/example/under50k/under50k/SitemapReader", name := "isCut", desc := "(Ljava/lang/String;)Z" } : Jvm.MethodName) prog_32_method_2_code (1 : Nat) (Option.some Jvm.ClassFile.FieldType.boolean)).before args0 about1 = true := code_word (m := ⟨8, 1⟩) (meth := k8m1) (c := k8c1) (by decide +kernel) rfl rfl rfl (by decide +kernel)
set_option maxRecDepth 65536 in
theorem w_c5 : (Jvm.Cond.code ({ cls := "java/lang/String", name := "length", desc := "()I" } : Jvm.MethodName) jdk_42_method_54_code (1 : Nat) (Option.some Jvm.ClassFile.FieldType.int)).before args0 about1 = true := code_word (m := ⟨7, 2⟩) (meth := k7m2) (c := k7c2) (by decide +kernel) rfl rfl rfl (by decide +kernel)
set_option maxRecDepth 65536 in
theorem w_c6 : (Jvm.Cond.code ({ cls := "java/lang/String", name := "coder", desc := "()B" } : Jvm.MethodName) jdk_42_method_152_code (1 : Nat) (Option.some Jvm.ClassFile.FieldType.byte)).before args0 about1 = true := code_word (m := ⟨7, 4⟩) (meth := k7m4) (c := k7c4) (by decide +kernel) rfl rfl rfl (by decide +kernel)
set_option maxRecDepth 65536 in
theorem w_c7 : (Jvm.Cond.code ({ cls := "java/lang/StringUTF16", name := "compress", desc := "([CII)[B" } : Jvm.MethodName) jdk_52_method_16_code (6 : Nat) (Option.some (Jvm.ClassFile.FieldType.array Jvm.ClassFile.FieldType.byte))).before args0 about1 = true := code_word (m := ⟨9, 2⟩) (meth := k9m2) (c := k9c2) (by decide +kernel) rfl rfl rfl (by decide +kernel)
set_option maxRecDepth 65536 in
theorem w_c8 : (Jvm.Cond.code ({ cls := "java/lang/StringUTF16", name := "compress", desc := "([CI[BII)I" } : Jvm.MethodName) jdk_52_method_21_code (7 : Nat) (Option.some Jvm.ClassFile.FieldType.int)).before args0 about1 = true := code_word (m := ⟨9, 3⟩) (meth := k9m3) (c := k9c3) (by decide +kernel) rfl rfl rfl (by decide +kernel)
set_option maxRecDepth 65536 in
theorem w_c9 : (Jvm.Cond.code ({ cls := "java/lang/StringUTF16", name := "coderFromArrayLen", desc := "([BI)B" } : Jvm.MethodName) jdk_52_method_15_code (2 : Nat) (Option.some Jvm.ClassFile.FieldType.byte)).before args0 about1 = true := code_word (m := ⟨9, 1⟩) (meth := k9m1) (c := k9c1) (by decide +kernel) rfl rfl rfl (by decide +kernel)
def codes1 : List Jvm.Cond := [Jvm.Cond.code x code maxLocals ret, Jvm.Cond.code ({ cls := "java/lang/String", name := "<init>", desc := "([C)V" } : Jvm.MethodName) jdk_42_method_3_code (2 : Nat) (Option.none : Option Jvm.ClassFile.FieldType), Jvm.Cond.code ({ cls := "java/lang/String", name := "<init>", desc := "([CIILjava/lang/Void;)V" } : Jvm.MethodName) jdk_42_method_149_code (6 : Nat) (Option.none : Option Jvm.ClassFile.FieldType), Jvm.Cond.code ({ cls := "java/lang/Object", name := "<init>", desc := "()V" } : Jvm.MethodName) object_method_1_code (1 : Nat) (Option.none : Option Jvm.ClassFile.FieldType), Jvm.Cond.code ({ cls := "com/example/under50k/under50k/SitemapReader", name := "isCut", desc := "(Ljava/lang/String;)Z" } : Jvm.MethodName) prog_32_method_2_code (1 : Nat) (Option.some Jvm.ClassFile.FieldType.boolean), Jvm.Cond.code ({ cls := "java/lang/String", name := "length", desc := "()I" } : Jvm.MethodName) jdk_42_method_54_code (1 : Nat) (Option.some Jvm.ClassFile.FieldType.int), Jvm.Cond.code ({ cls := "java/lang/String", name := "coder", desc := "()B" } : Jvm.MethodName) jdk_42_method_152_code (1 : Nat) (Option.some Jvm.ClassFile.FieldType.byte), Jvm.Cond.code ({ cls := "java/lang/StringUTF16", name := "compress", desc := "([CII)[B" } : Jvm.MethodName) jdk_52_method_16_code (6 : Nat) (Option.some (Jvm.ClassFile.FieldType.array Jvm.ClassFile.FieldType.byte)), Jvm.Cond.code ({ cls := "java/lang/StringUTF16", name := "compress", desc := "([CI[BII)I" } : Jvm.MethodName) jdk_52_method_21_code (7 : Nat) (Option.some Jvm.ClassFile.FieldType.int), Jvm.Cond.code ({ cls := "java/lang/StringUTF16", name := "coderFromArrayLen", desc := "([BI)B" } : Jvm.MethodName) jdk_52_method_15_code (2 : Nat) (Option.some Jvm.ClassFile.FieldType.byte)]
set_option maxRecDepth 65536 in
theorem codes_eq : words1.filter isCode = codes1 := rfl
theorem w_codes : ∀ c ∈ words1.filter isCode, c.before args0 about1 = true := by
  rw [codes_eq]
  intro c hc
  simp only [codes1, List.mem_cons, List.not_mem_nil, or_false] at hc
  rcases hc with rfl | rfl | rfl | rfl | rfl | rfl | rfl | rfl | rfl | rfl
  · exact w_c0
  · exact w_c1
  · exact w_c2
  · exact w_c3
  · exact w_c4
  · exact w_c5
  · exact w_c6
  · exact w_c7
  · exact w_c8
  · exact w_c9
set_option maxRecDepth 65536 in
theorem w_t1 : (words1.take 24).all (fun c => isCode c || c.before args0 about1) = true := by decide +kernel
set_option maxRecDepth 65536 in
theorem w_t2 : ((words1.drop 24).take 24).all (fun c => isCode c || c.before args0 about1) = true := by decide +kernel
set_option maxRecDepth 65536 in
theorem w_t3 : ((words1.drop 24).drop 24).all (fun c => isCode c || c.before args0 about1) = true := by decide +kernel
theorem w_tables : (allAtoms (Jvm.Cond.code x code maxLocals ret :: tables_1)).before args0 about1 = true := by
  rw [allAtoms_all]
  show words1.all (fun c => c.before args0 about1) = true
  refine all_split ?_ w_codes
  rw [← List.take_append_drop 24 words1, List.all_append, w_t1, ← List.take_append_drop 24 (words1.drop 24), List.all_append, w_t2, w_t3]
  rfl
set_option maxRecDepth 65536 in
theorem w_rest : rest_1_c.before args0 about1 = true := by decide +kernel
set_option maxRecDepth 65536 in
theorem w_case : (Jvm.Cond.and given_1 narrow_1).before args0 about1 = true := by decide +kernel
set_option maxRecDepth 65536 in
theorem w_consts : constsHeld consts_1 about1 := Jvm.Lit.constsHeldB_iff.mp (by decide +kernel)
theorem w_applies : (headSpec (Jvm.Cond.code x code maxLocals ret :: tables_1) room_1).applies x e0.platform about1 = true :=
  (Spec.applies_iff w_frames).mpr ⟨w_running, w_runnable, w_alone, w_named, w_hears, w_ripe, w_room, w_tables⟩
theorem atStart : AtStart classFile x code maxLocals ret World_1 tables_1 room_1 Calls_1 rest_1 Pre_1 launch0 p0 e0 about1 theMethod args0 below0 :=
  ⟨lists_1, trivial, launch0.admits_env _ _ _, launch0.least_env, fairChoices_fair.cas, fairChoices_fair.clock, w_frames, w_args, w_heap, w_applies, ⟨w_consts, trivial⟩, w_rest, w_case⟩
end start1
theorem witness_1 : WitnessClaimed_1 := ⟨start1.p0, start1.e0, start1.about1, start1.theMethod, start1.args0, start1.below0, start1.atStart⟩
end Jvm.Pilot.@@N@@
