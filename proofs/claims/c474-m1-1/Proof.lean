import JvmDerived
import JvmDerived.Pilot.@@N@@Statement
import JvmDerived.Pilot.@@N@@Code
set_option linter.unusedVariables false
set_option linter.unusedSimpArgs false
namespace Jvm.RoadKit
open Sem ClassFile Op Lib Jvm.Stand Jvm.Free Jvm.LawKit
section New
variable {p : Program} {l : Launch} {e : Env} {R : Room} {s : State} {m : MethodId} {args : Array Value} {below : List Frame} {meth : Method} {c : Code} {T : State} {locs : List Loc} {cells slots : Nat}
theorem retI (X : Stand p l e R s m args below meth c T locs cells slots) (hx : p.tables.exec = Jvm.exec) {pc : Nat} {Ls : Array Slot} {z : Int32} {rest : List Value} (hret : meth.sig.returnType = some .int) (hd : decode c.code pc = .ok (.ireturn, 1)) {fs : List Frame}
    (hl : ∀ (f : JFrame) (acts : List Action), f.method = m → f.locked = none → f.entered = [] → (doReturn e (T.setTop f) acts (some (.int z))).1 = T.setFrames fs) : Steps p.tables e below (T.setTop (mkF m pc Ls (.int z :: rest))) (T.setFrames fs) := by
  have hm' : T.vm.method? m = some meth := X.method'
  have hn : narrow .int (.int z) = .int z := rfl
  show Steps p.tables e below (T.setTop { method := m, pc := pc, locals := Ls, stack := _ :: rest, locked := none }) _
  jvm_step X.here [X.here.top, hx, hd, hm', hret, hn]
  first | (intro acts; rw [hl _ acts rfl rfl rfl]) | rw [hl _ _ rfl rfl rfl]
  exact Steps.refl _
/-- the run goes on from here to an end of which P holds -/
def Go (tb : Tables) (e : Env) (below : List Frame) (T : State) (g : JFrame) (P : State → Prop) : Prop := ∃ U, Steps tb e below (T.setTop g) U ∧ P U
theorem go1 {tb : Tables} {T' : State} {g g' : JFrame} {P : State → Prop} (k : ∀ t, Steps tb e below (T'.setTop g') t → Steps tb e below (T.setTop g) t) (h : Go tb e below T' g' P) : Go tb e below T g P := by
  obtain ⟨U, h1, h2⟩ := h; exact ⟨U, k U h1, h2⟩
theorem goT {tb : Tables} {T' : State} {g g' : JFrame} {P : State → Prop} (k : Steps tb e below (T.setTop g) (T'.setTop g')) (h : Go tb e below T' g' P) : Go tb e below T g P := by
  obtain ⟨U, h1, h2⟩ := h; exact ⟨U, k.trans h1, h2⟩
theorem stp {tb : Tables} {T' t : State} {g g' : JFrame} (k : ∀ t, Steps tb e below (T'.setTop g') t → Steps tb e below (T.setTop g) t) (h : Steps tb e below (T'.setTop g') t) : Steps tb e below (T.setTop g) t := k t h
theorem goB {tb : Tables} {ml : Nat} {g : JFrame} {Qp : Outcome → State → Prop} (q : entryFrame m args ml = g) (h : Go tb e below T g (fun U => ∃ o, U.status = .running ∧ Ended U below o ∧ Qp o U)) :
    ∃ s₂ o, Steps tb e below (T.setTop (entryFrame m args ml)) s₂ ∧ s₂.status = .running ∧ Ended s₂ below o ∧ Qp o s₂ := by
  obtain ⟨U, h1, o, h2, h3, h4⟩ := h; exact ⟨U, o, q ▸ h1, h2, h3, h4⟩
theorem goR (X : Stand p l e R s m args below meth c T locs cells slots) (hlocks : meth.locks = false) {v : Option Value} (hv : meth.sig.returnType = none → v = none) {g : JFrame} {kc ks : Nat} (Q : Option Value → Heap → List Loc → Prop)
    (k : ∀ fs, (∀ (f : JFrame) (acts : List Action), f.method = m → f.locked = none → f.entered = [] → (doReturn e (T.setTop f) acts v).1 = T.setFrames fs) → Steps p.tables e below (T.setTop g) (T.setFrames fs)) (hc : cells ≤ kc) (hs : slots ≤ ks) (hq : Q v T.heap locs) :
    Go p.tables e below T g (fun U => ∃ o, U.status = .running ∧ Ended U below o ∧ ∃ v L, o = .returned v ∧ Q v U.heap L ∧ FrameEnd s o U L kc ks) := by
  obtain ⟨fs, hr, hrun, hended, hW, hsame⟩ := X.leave hv hlocks
  exact ⟨_, k fs hr, _, hrun, hended, _, _, rfl, hq, ⟨_, rfl⟩, hW, hsame.mono hc hs⟩
theorem fitsG {C : String} {u : Value} (h : u.isRef = true) : fits (.object C) u = true := by rcases ref_cases h with rfl | ⟨a, rfl⟩ <;> rfl
theorem selPriv {Z : State} {a0 : Array Value} {y : MethodName} {n : Nat} (hZ : Z.Warmed39 s.vm) (wi : (Cond.instantiable y.cls n).before a0 Z = true) (wp : (Cond.privateMethod y).before a0 Z = true) (wm : (Cond.instanceMethod y).before a0 Z = true) (hy : y.cls ≠ "java/lang/invoke/MethodHandle" ∧ y.cls ≠ "java/lang/invoke/VarHandle") : (Cond.selects y.cls y y).before args s = true := by
  obtain ⟨c, k, h1, h2, -, h4, -⟩ := Cond.instantiable_spec (show (Cond.instantiable y.cls n).before args s = true from mv hZ wi)
  have h5 : k.isInterface = false := by
    cases hq : k.isInterface
    · rfl
    · rw [hq] at h4; simp at h4
  exact selects_self_of_private h1 h2 h5 (Cond.privateMethod_at (mvP hZ wp (args := #[]))) (mv hZ wm) hy
theorem nsRoot {Z : State} {a0 : Array Value} {O K : String} {n : Nat} (w : (Cond.noSuperclass O).before a0 Z = true) (wk : (Cond.instantiable K n).before a0 Z = true) (hn : O ≠ K) : NS Z O K := by
  obtain ⟨c, k, h1, h2, h3, -⟩ := Cond.noSuperclass_spec w
  obtain ⟨t, kt, g1, -⟩ := Cond.instantiable_spec wk
  have ne := ids_ne h1 g1 hn
  exact ⟨c, t, h1, g1, fun fuel => by cases fuel <;> simp [Vm.isSubclassAux, ne, h2, h3]⟩
theorem nsNo {Z : State} {a0 : Array Value} {C S K : String} {n : Nat} (w : (Cond.superclass C S).before a0 Z = true) (wk : (Cond.instantiable K n).before a0 Z = true) (N : NS Z C K) (hn : C ≠ K) : ∃ c t, Z.vm.findClass C = some c ∧ Z.vm.findClass K = some t ∧ Z.vm.assignable c t = false := by
  obtain ⟨c, t, h0, g0, n3⟩ := N
  obtain ⟨pp, k, kp, -, h2, -, -, h5, -, -⟩ := Cond.superclass_spec h0 w
  obtain ⟨t', kt, g1, g2, g3, g4, -⟩ := Cond.instantiable_spec wk
  cases g0.symm.trans g1
  have ne := ids_ne h0 g0 hn
  have g5 : kt.isInterface = false := by
    cases hq : kt.isInterface
    · rfl
    · rw [hq] at g4; simp at g4
  refine ⟨c, t, h0, g0, ?_⟩
  show Z.vm.assignableAux (255 + 1) c t = false
  simp [Vm.assignableAux, ne, h2, g2, h5, g3, g5, Vm.isSubclass, n3]
theorem lenS {Z : State} {t : Term} {a : Addr} {cl : Cell} {n : Int32} {ty : FieldType} (ev : t.eval args Z none [] Z = some (.ref a)) (A : Arr Z Z.heap a cl ty) (h : (Term.length t).eval args Z none [] Z = some (.int n)) :
    cl.slots.size < 2 ^ 31 ∧ cl.slots.size.toInt32 = n ∧ cl.slots.size = n.toNatClampNeg ∧ ¬ n < 0 := by
  have ha := A.fin (Vm.Alike.refl _)
  by_cases q : cl.slots.size < 2 ^ 31
  · have e := len_f ev ha q
    rw [h] at e
    have e2 : n = cl.slots.size.toInt32 := by injection e with e; injection e
    have e3 := len_toInt q
    refine ⟨q, e2.symm, ?_, ?_⟩
    · rw [e2]; simp only [Int32.toNatClampNeg, e3]; rfl
    · rw [e2, Int32.lt_iff_toInt_lt, e3]; show ¬ (cl.slots.size : Int) < 0; omega
  · exfalso
    have q' : ¬ cl.slots.size < 2147483648 := q
    simp [Term.eval, ev, ha, q'] at h
end New
end Jvm.RoadKit
namespace Jvm.Pilot.@@N@@
open Jvm Jvm.ClassFile Sem Op Lib Jvm.Free Jvm.Stand Jvm.LawKit Jvm.RoadKit Bundle Jvm.Pilot.@@N@@.Jvm.D
theorem own_u (x : Int32) (q : Int32) (k : Nat) (hk : q.toBitVec.toNat % 32 = k) (h0 : 0 < k) (hx : 0 ≤ x.toInt) : ((x.toUInt32 >>> (q &&& 31).toUInt32).toInt32).toInt = x.toInt / (2 ^ k : Nat) := by
  have h := c_iushr x q k hk h0
  have r := rng32 x
  rw [h, Int.emod_eq_of_lt hx (by omega)]
theorem own_nlzb (p i1 n1 i2 n2 i3 n3 i4 n4 : Int32) (h1 : (0 : Int32) < p) (h2 : ¬ ((1073741824 : Int32) < p))
    (e1 : i1 = (if p < (65536 : Int32) then p else ((p.toUInt32 >>> ((16 : Int32) &&& 31).toUInt32).toInt32))) (f1 : n1 = (if p < (65536 : Int32) then (31 : Int32) else ((31 : Int32) + (-16 : Int32))))
    (e2 : i2 = (if i1 < (256 : Int32) then i1 else ((i1.toUInt32 >>> ((8 : Int32) &&& 31).toUInt32).toInt32))) (f2 : n2 = (if i1 < (256 : Int32) then n1 else (n1 + (-8 : Int32))))
    (e3 : i3 = (if i2 < (16 : Int32) then i2 else ((i2.toUInt32 >>> ((4 : Int32) &&& 31).toUInt32).toInt32))) (f3 : n3 = (if i2 < (16 : Int32) then n2 else (n2 + (-4 : Int32))))
    (e4 : i4 = (if i3 < (4 : Int32) then i3 else ((i3.toUInt32 >>> ((2 : Int32) &&& 31).toUInt32).toInt32))) (f4 : n4 = (if i3 < (4 : Int32) then n3 else (n3 + (-2 : Int32)))) :
    1 ≤ (n4 - ((i4.toUInt32 >>> ((1 : Int32) &&& 31).toUInt32).toInt32)).toInt ∧ (n4 - ((i4.toUInt32 >>> ((1 : Int32) &&& 31).toUInt32).toInt32)).toInt ≤ 31 := by
  have l0 : (0 : Int32).toInt = 0 := by decide
  have l1 : (1073741824 : Int32).toInt = 1073741824 := by decide
  have l2 : (65536 : Int32).toInt = 65536 := by decide
  have l3 : (256 : Int32).toInt = 256 := by decide
  have l4 : (16 : Int32).toInt = 16 := by decide
  have l5 : (4 : Int32).toInt = 4 := by decide
  have m1 : ((31 : Int32) + (-16 : Int32)).toInt = 15 := by decide
  have m2 : (31 : Int32).toInt = 31 := by decide
  have m3 : (-8 : Int32).toInt = -8 := by decide
  have m4 : (-4 : Int32).toInt = -4 := by decide
  have m5 : (-2 : Int32).toInt = -2 := by decide
  have k1 := Int32.lt_iff_toInt_lt.mp h1
  have k2 := mt Int32.lt_iff_toInt_lt.mpr h2
  -- stage 1
  have s1 : (1 ≤ i1.toInt ∧ i1.toInt ≤ 65535 ∧ n1.toInt = 31) ∨ (1 ≤ i1.toInt ∧ i1.toInt ≤ 16384 ∧ n1.toInt = 15) := by
    by_cases q : p < (65536 : Int32)
    · rw [if_pos q] at e1 f1; have := Int32.lt_iff_toInt_lt.mp q; subst e1 f1; left; omega
    · rw [if_neg q] at e1 f1; have := mt Int32.lt_iff_toInt_lt.mpr q
      have u := own_u p (16 : Int32) 16 (by decide) (by decide) (by omega)
      have v : ((2 ^ 16 : Nat) : Int) = 65536 := by decide
      rw [v, ← e1] at u; rw [f1]; right; omega
  have s2 : (1 ≤ i2.toInt ∧ i2.toInt ≤ 255 ∧ 15 ≤ n2.toInt ∧ n2.toInt ≤ 31) ∨ (1 ≤ i2.toInt ∧ i2.toInt ≤ 255 ∧ n2.toInt = 23) ∨ (1 ≤ i2.toInt ∧ i2.toInt ≤ 64 ∧ n2.toInt = 7) := by
    by_cases q : i1 < (256 : Int32)
    · rw [if_pos q] at e2 f2; have := Int32.lt_iff_toInt_lt.mp q; subst e2 f2; omega
    · rw [if_neg q] at e2 f2; have := mt Int32.lt_iff_toInt_lt.mpr q
      have u := own_u i1 (8 : Int32) 8 (by decide) (by decide) (by omega)
      have v : ((2 ^ 8 : Nat) : Int) = 256 := by decide
      have c := c_iadd n1 (-8 : Int32)
      have r := rng32 (n1 + (-8 : Int32))
      rw [v, ← e2] at u; rw [← f2] at c r; omega
  have s3 : (1 ≤ i3.toInt ∧ i3.toInt ≤ 15 ∧ 7 ≤ n3.toInt ∧ n3.toInt ≤ 31) ∨ (1 ≤ i3.toInt ∧ i3.toInt ≤ 4 ∧ 3 ≤ n3.toInt ∧ n3.toInt ≤ 27) ∨ (1 ≤ i3.toInt ∧ i3.toInt ≤ 15 ∧ 11 ≤ n3.toInt ∧ n3.toInt ≤ 27) := by
    by_cases q : i2 < (16 : Int32)
    · rw [if_pos q] at e3 f3; have := Int32.lt_iff_toInt_lt.mp q; subst e3 f3; omega
    · rw [if_neg q] at e3 f3; have := mt Int32.lt_iff_toInt_lt.mpr q
      have u := own_u i2 (4 : Int32) 4 (by decide) (by decide) (by omega)
      have v : ((2 ^ 4 : Nat) : Int) = 16 := by decide
      have c := c_iadd n2 (-4 : Int32)
      have r := rng32 (n2 + (-4 : Int32))
      rw [v, ← e3] at u; rw [← f3] at c r; omega
  have s4 : (1 ≤ i4.toInt ∧ i4.toInt ≤ 3 ∧ 3 ≤ n4.toInt ∧ n4.toInt ≤ 31) ∨ (i4.toInt = 1 ∧ 1 ≤ n4.toInt ∧ n4.toInt ≤ 31) := by
    by_cases q : i3 < (4 : Int32)
    · rw [if_pos q] at e4 f4; have := Int32.lt_iff_toInt_lt.mp q; subst e4 f4; omega
    · rw [if_neg q] at e4 f4; have := mt Int32.lt_iff_toInt_lt.mpr q
      have u := own_u i3 (2 : Int32) 2 (by decide) (by decide) (by omega)
      have v : ((2 ^ 2 : Nat) : Int) = 4 := by decide
      have c := c_iadd n3 (-2 : Int32)
      have r := rng32 (n3 + (-2 : Int32))
      rw [v, ← e4] at u; rw [← f4] at c r; omega
  have u := own_u i4 (1 : Int32) 1 (by decide) (by decide) (by omega)
  have v : ((2 ^ 1 : Nat) : Int) = 2 := by decide
  rw [v] at u
  have c := c_isub n4 ((i4.toUInt32 >>> ((1 : Int32) &&& 31).toUInt32).toInt32)
  have r := rng32 (n4 - ((i4.toUInt32 >>> ((1 : Int32) &&& 31).toUInt32).toInt32))
  omega
theorem own_l2 (z : Int32) (h : 1 ≤ (z).toInt ∧ (z).toInt ≤ 31) : (0 : Int32) < ((2 : Int32) * ((32 : Int32) - z)) ∧ ¬ (((2 : Int32) * ((32 : Int32) - z)) < (0 : Int32)) ∧ (((2 : Int32) * ((32 : Int32) - z))).toNatClampNeg ≤ 62 ∧ (((2 : Int32) * ((32 : Int32) - z))).toInt ≤ 62 := by
  have l0 : (0 : Int32).toInt = 0 := by decide
  have l1 : (32 : Int32).toInt = 32 := by decide
  have l2 : (2 : Int32).toInt = 2 := by decide
  have c1 := c_isub (32 : Int32) z
  have r1 := rng32 ((32 : Int32) - z)
  have c2 := c_imul (2 : Int32) ((32 : Int32) - z)
  rw [l2] at c2
  have r2 := rng32 ((2 : Int32) * ((32 : Int32) - z))
  refine ⟨?_, ?_, ?_, ?_⟩
  · rw [Int32.lt_iff_toInt_lt]; omega
  · rw [Int32.lt_iff_toInt_lt]; omega
  · simp only [Int32.toNatClampNeg]; omega
  · omega
theorem own_pp (p : Int32) (h1 : ¬ (p < (0 : Int32))) (h2 : ¬ ((1073741823 : Int32) < p)) : (0 : Int32) < (p + (1 : Int32)) ∧ ¬ ((1073741824 : Int32) < (p + (1 : Int32))) := by
  have l0 : (0 : Int32).toInt = 0 := by decide
  have l1 : (1073741823 : Int32).toInt = 1073741823 := by decide
  have l2 : (1073741824 : Int32).toInt = 1073741824 := by decide
  have l3 : (1 : Int32).toInt = 1 := by decide
  have k1 := mt Int32.lt_iff_toInt_lt.mpr h1
  have k2 := mt Int32.lt_iff_toInt_lt.mpr h2
  have c := c_iadd p (1 : Int32)
  have r := rng32 (p + (1 : Int32))
  rw [Int32.lt_iff_toInt_lt, Int32.lt_iff_toInt_lt]
  omega
theorem own_sz (p : Int32) : ¬ ((p &&& (1073741823 : Int32)) < (0 : Int32)) ∧ ¬ ((1073741823 : Int32) < (p &&& (1073741823 : Int32))) := by
  have h := c_mask p (1073741823 : Int32) 30 (by decide) (by decide)
  have l0 : (0 : Int32).toInt = 0 := by decide
  have l1 : (1073741823 : Int32).toInt = 1073741823 := by decide
  rw [Int32.lt_iff_toInt_lt, Int32.lt_iff_toInt_lt]
  omega
theorem own_nz {y : Int32} (h : (0 : Int32) < y) : y ≠ 0 := fun e => by
  subst e; exact absurd h (by decide)
theorem own_nb {P : Prop} [Decidable P] {z : Int32} (h : z = (if P then (0 : Int32) else (1 : Int32))) : (nar .boolean z) = z := by
  by_cases q : P
  · rw [if_pos q] at h; subst h; decide
  · rw [if_neg q] at h; subst h; decide
theorem own_ib (p : Int32) {z y : Int32} (hz : z = ((p &&& (2147483647 : Int32)) % y)) (h1 : (0 : Int32) < y) (h2 : (y).toInt ≤ 62) : 0 ≤ z.toInt ∧ z.toInt ≤ 61 := by
  have h := c_mask p (2147483647 : Int32) 31 (by decide) (by decide)
  have l0 : (0 : Int32).toInt = 0 := by decide
  have k1 := Int32.lt_iff_toInt_lt.mp h1
  have c := (c_iremV (p &&& (2147483647 : Int32)) y).1 (by omega) (by omega)
  rw [hz]; omega
theorem d5_0 : decode jdk_33_method_47_code 0 = .ok (.iload_n 0, 1) := by decide +kernel
theorem d5_1 : decode jdk_33_method_47_code 1 = .ok (.ifCond .gt 14, 3) := by decide +kernel
theorem d5_15 : decode jdk_33_method_47_code 15 = .ok (.bipush 31, 2) := by decide +kernel
theorem d5_17 : decode jdk_33_method_47_code 17 = .ok (.istore_n 1, 1) := by decide +kernel
theorem d5_18 : decode jdk_33_method_47_code 18 = .ok (.iload_n 0, 1) := by decide +kernel
theorem d5_19 : decode jdk_33_method_47_code 19 = .ok (.ldc_w 264, 3) := by decide +kernel
theorem d5_22 : decode jdk_33_method_47_code 22 = .ok (.if_icmp .lt 11, 3) := by decide +kernel
theorem d5_25 : decode jdk_33_method_47_code 25 = .ok (.iinc 1 (-16), 3) := by decide +kernel
theorem d5_28 : decode jdk_33_method_47_code 28 = .ok (.iload_n 0, 1) := by decide +kernel
theorem d5_29 : decode jdk_33_method_47_code 29 = .ok (.bipush 16, 2) := by decide +kernel
theorem d5_31 : decode jdk_33_method_47_code 31 = .ok (.iushr, 1) := by decide +kernel
theorem d5_32 : decode jdk_33_method_47_code 32 = .ok (.istore_n 0, 1) := by decide +kernel
theorem d5_33 : decode jdk_33_method_47_code 33 = .ok (.iload_n 0, 1) := by decide +kernel
theorem d5_34 : decode jdk_33_method_47_code 34 = .ok (.sipush 256, 3) := by decide +kernel
theorem d5_37 : decode jdk_33_method_47_code 37 = .ok (.if_icmp .lt 11, 3) := by decide +kernel
theorem d5_40 : decode jdk_33_method_47_code 40 = .ok (.iinc 1 (-8), 3) := by decide +kernel
theorem d5_43 : decode jdk_33_method_47_code 43 = .ok (.iload_n 0, 1) := by decide +kernel
theorem d5_44 : decode jdk_33_method_47_code 44 = .ok (.bipush 8, 2) := by decide +kernel
theorem d5_46 : decode jdk_33_method_47_code 46 = .ok (.iushr, 1) := by decide +kernel
theorem d5_47 : decode jdk_33_method_47_code 47 = .ok (.istore_n 0, 1) := by decide +kernel
theorem d5_48 : decode jdk_33_method_47_code 48 = .ok (.iload_n 0, 1) := by decide +kernel
theorem d5_49 : decode jdk_33_method_47_code 49 = .ok (.bipush 16, 2) := by decide +kernel
theorem d5_51 : decode jdk_33_method_47_code 51 = .ok (.if_icmp .lt 10, 3) := by decide +kernel
theorem d5_54 : decode jdk_33_method_47_code 54 = .ok (.iinc 1 (-4), 3) := by decide +kernel
theorem d5_57 : decode jdk_33_method_47_code 57 = .ok (.iload_n 0, 1) := by decide +kernel
theorem d5_58 : decode jdk_33_method_47_code 58 = .ok (.iconst 4, 1) := by decide +kernel
theorem d5_59 : decode jdk_33_method_47_code 59 = .ok (.iushr, 1) := by decide +kernel
theorem d5_60 : decode jdk_33_method_47_code 60 = .ok (.istore_n 0, 1) := by decide +kernel
theorem d5_61 : decode jdk_33_method_47_code 61 = .ok (.iload_n 0, 1) := by decide +kernel
theorem d5_62 : decode jdk_33_method_47_code 62 = .ok (.iconst 4, 1) := by decide +kernel
theorem d5_63 : decode jdk_33_method_47_code 63 = .ok (.if_icmp .lt 10, 3) := by decide +kernel
theorem d5_66 : decode jdk_33_method_47_code 66 = .ok (.iinc 1 (-2), 3) := by decide +kernel
theorem d5_69 : decode jdk_33_method_47_code 69 = .ok (.iload_n 0, 1) := by decide +kernel
theorem d5_70 : decode jdk_33_method_47_code 70 = .ok (.iconst 2, 1) := by decide +kernel
theorem d5_71 : decode jdk_33_method_47_code 71 = .ok (.iushr, 1) := by decide +kernel
theorem d5_72 : decode jdk_33_method_47_code 72 = .ok (.istore_n 0, 1) := by decide +kernel
theorem d5_73 : decode jdk_33_method_47_code 73 = .ok (.iload_n 1, 1) := by decide +kernel
theorem d5_74 : decode jdk_33_method_47_code 74 = .ok (.iload_n 0, 1) := by decide +kernel
theorem d5_75 : decode jdk_33_method_47_code 75 = .ok (.iconst 1, 1) := by decide +kernel
theorem d5_76 : decode jdk_33_method_47_code 76 = .ok (.iushr, 1) := by decide +kernel
theorem d5_77 : decode jdk_33_method_47_code 77 = .ok (.isub, 1) := by decide +kernel
theorem d5_78 : decode jdk_33_method_47_code 78 = .ok (.ireturn, 1) := by decide +kernel
theorem pn_5 : plainName "java/lang/Integer" = true := by first | (simp [plainName, overriddenIn]; done) | decide +kernel
theorem ef_5 (m : MethodId) (p1 : Int32) : entryFrame m #[(.int p1)] 2 = mkF m 0 #[.val (.int p1), .unset] [] := by first | (simp [entryFrame, mkF, argsToLocals, Value.category]; done) | rfl
def Q5 (Z : State) (p1 : Int32) (h0 : Heap) (n0 : Nat) (v : Option Value) (h : Heap) (L : List Loc) : Prop := ∃ (z : Int32), v = some (.int z) ∧ Fr n0 L ∧ h = h0 ∧ 1 ≤ (z).toInt ∧ (z).toInt ≤ 31
set_option maxRecDepth 65536 in
set_option maxHeartbeats 40000000 in
theorem rm5 (l : Launch) (Z : State) (a0 : Array Value) (hw : ∀ d ∈ tables_1, d.before a0 Z = true) (ws : List Jvm.Cond) (p1 : Int32) (h0 : Heap) (n0 : Nat) (Z0 : n0 ≤ h0.size) (h1 : (0 : Int32) < p1) (h2 : ¬ ((1073741824 : Int32) < p1)) :
    MetFree l (⟨"java/lang/Integer", "numberOfLeadingZeros", "(I)I"⟩ : MethodName) (head1 (Jvm.Cond.code (⟨"java/lang/Integer", "numberOfLeadingZeros", "(I)I"⟩ : MethodName) jdk_33_method_47_code 2 (some .int) :: ws) ({ frames := 0, cells := 0, slots := 0, locals := 0 } : Room)) (fun a U => a = #[(.int p1)] ∧ Z.Warmed39 U.vm ∧ U.heap = h0) (fun _ _ _ _ _ => True) (fun _ U o U' => ∃ v L, o = .returned v ∧ Q5 Z p1 h0 n0 v U'.heap L ∧ FrameEnd U o U' L ({ frames := 0, cells := 0, slots := 0, locals := 0 } : Room).cells ({ frames := 0, cells := 0, slots := 0, locals := 0 } : Room).slots) := by
  refine MetFree.of_bodySF (plainFor_of_name pn_5) hisR ?_
  intro p e s m args below meth c s₁ Bd hml0 hP hK
  obtain ⟨rfl, hZ, hh⟩ := hP
  have hx := Bd.exec
  have hby := Bd.bytes
  have hml : c.maxLocals = 2 := hml0
  have hown : s.vm.findClass "java/lang/Integer" = some m.cls := findClass_of_methodNamed Bd.named
  have hnm := (name_of_methodNamed Bd.named Bd.method).1
  have X0 : Stand p l e ({ frames := 0, cells := 0, slots := 0, locals := 0 } : Room) s m #[(.int p1)] below meth c s₁ [] 0 0 := Stand.of_body Bd
  have e0 : s₁.heap = h0 := by rw [← hh, Bd.state]; rfl
  have N0 := Fr.nil n0
  refine goB (ef_5 m p1) ?_
  show Go p.tables e below s₁ (mkF m 0 #[.val (.int p1), .unset] []) _
  refine go1 (fun _ => XS.iloadN X0.here hx rfl (hb hby d5_0) rfl) ?_
  show Go p.tables e below s₁ (mkF m 1 #[.val (.int p1), .unset] [(.int p1)]) _
  refine go1 (fun _ => XS.ifYes X0.here hx rfl (pc0 := 1) (pc' := 15) rfl (hb hby d5_1) rfl ((if0 _ _).trans (tlt h1).2.2.1) (by decide) (by decide)) ?_
  show Go p.tables e below s₁ (mkF m 15 #[.val (.int p1), .unset] []) _
  refine go1 (fun _ => XS.bipush X0.here hx rfl (hb hby d5_15)) ?_
  show Go p.tables e below s₁ (mkF m 17 #[.val (.int p1), .unset] [(.int (31 : Int32))]) _
  refine go1 (fun _ => XS.istoreN X0.here hx rfl (hb hby d5_17) rfl (l' := #[.val (.int p1), .val (.int (31 : Int32))]) rfl) ?_
  show Go p.tables e below s₁ (mkF m 18 #[.val (.int p1), .val (.int (31 : Int32))] []) _
  refine go1 (fun _ => XS.iloadN X0.here hx rfl (hb hby d5_18) rfl) ?_
  show Go p.tables e below s₁ (mkF m 19 #[.val (.int p1), .val (.int (31 : Int32))] [(.int p1)]) _
  refine go1 (X0.ldcwInt hx hown (mvT hZ (hw _ (List.mem_of_getElem? (i := 22) rfl))) (g := (mkF m 19 #[.val (.int p1), .val (.int (31 : Int32))] [(.int p1)])) rfl (hb hby d5_19)) ?_
  show Go p.tables e below s₁ (mkF m 22 #[.val (.int p1), .val (.int (31 : Int32))] [(.int (65536 : Int32)), (.int p1)]) _
  refine go1 (T' := s₁) (g' := (mkF m 33 #[.val (.int (if p1 < (65536 : Int32) then p1 else ((p1.toUInt32 >>> ((16 : Int32) &&& 31).toUInt32).toInt32))), .val (.int (if p1 < (65536 : Int32) then (31 : Int32) else ((31 : Int32) + (-16 : Int32))))] [])) (fun t k => ?_) ?_
  · by_cases hd1 : p1 < (65536 : Int32)
    · skip
      rw [(if_pos hd1 : (if p1 < (65536 : Int32) then p1 else ((p1.toUInt32 >>> ((16 : Int32) &&& 31).toUInt32).toInt32)) = p1), (if_pos hd1 : (if p1 < (65536 : Int32) then (31 : Int32) else ((31 : Int32) + (-16 : Int32))) = (31 : Int32))] at k
      show Steps p.tables e below (s₁.setTop (mkF m 22 #[.val (.int p1), .val (.int (31 : Int32))] [(.int (65536 : Int32)), (.int p1)])) _
      refine XS.icmpYes X0.here hx rfl (pc0 := 22) (pc' := 33) rfl (hb hby d5_22) rfl (tlt hd1).1 (by decide) (by decide) ?_
      show Steps p.tables e below (s₁.setTop (mkF m 33 #[.val (.int p1), .val (.int (31 : Int32))] [])) _
      exact k
    · skip
      rw [(if_neg hd1 : (if p1 < (65536 : Int32) then p1 else ((p1.toUInt32 >>> ((16 : Int32) &&& 31).toUInt32).toInt32)) = ((p1.toUInt32 >>> ((16 : Int32) &&& 31).toUInt32).toInt32)), (if_neg hd1 : (if p1 < (65536 : Int32) then (31 : Int32) else ((31 : Int32) + (-16 : Int32))) = ((31 : Int32) + (-16 : Int32)))] at k
      show Steps p.tables e below (s₁.setTop (mkF m 22 #[.val (.int p1), .val (.int (31 : Int32))] [(.int (65536 : Int32)), (.int p1)])) _
      refine XS.icmpNo X0.here hx rfl (hb hby d5_22) rfl (flt hd1).1 ?_
      show Steps p.tables e below (s₁.setTop (mkF m 25 #[.val (.int p1), .val (.int (31 : Int32))] [])) _
      refine XS.iinc X0.here hx rfl (hb hby d5_25) rfl (l' := #[.val (.int p1), .val (.int ((31 : Int32) + (-16 : Int32)))]) rfl ?_
      show Steps p.tables e below (s₁.setTop (mkF m 28 #[.val (.int p1), .val (.int ((31 : Int32) + (-16 : Int32)))] [])) _
      refine XS.iloadN X0.here hx rfl (hb hby d5_28) rfl ?_
      show Steps p.tables e below (s₁.setTop (mkF m 29 #[.val (.int p1), .val (.int ((31 : Int32) + (-16 : Int32)))] [(.int p1)])) _
      refine XS.bipush X0.here hx rfl (hb hby d5_29) ?_
      show Steps p.tables e below (s₁.setTop (mkF m 31 #[.val (.int p1), .val (.int ((31 : Int32) + (-16 : Int32)))] [(.int (16 : Int32)), (.int p1)])) _
      refine XS.iushr X0.here hx rfl (hb hby d5_31) rfl ?_
      show Steps p.tables e below (s₁.setTop (mkF m 32 #[.val (.int p1), .val (.int ((31 : Int32) + (-16 : Int32)))] [(.int ((p1.toUInt32 >>> ((16 : Int32) &&& 31).toUInt32).toInt32))])) _
      refine XS.istoreN X0.here hx rfl (hb hby d5_32) rfl (l' := #[.val (.int ((p1.toUInt32 >>> ((16 : Int32) &&& 31).toUInt32).toInt32)), .val (.int ((31 : Int32) + (-16 : Int32)))]) rfl ?_
      show Steps p.tables e below (s₁.setTop (mkF m 33 #[.val (.int ((p1.toUInt32 >>> ((16 : Int32) &&& 31).toUInt32).toInt32)), .val (.int ((31 : Int32) + (-16 : Int32)))] [])) _
      exact k
  show Go p.tables e below s₁ (mkF m 33 #[.val (.int (if p1 < (65536 : Int32) then p1 else ((p1.toUInt32 >>> ((16 : Int32) &&& 31).toUInt32).toInt32))), .val (.int (if p1 < (65536 : Int32) then (31 : Int32) else ((31 : Int32) + (-16 : Int32))))] []) _
  obtain ⟨z2, hz2⟩ : ∃ z : Int32, z = (if p1 < (65536 : Int32) then p1 else ((p1.toUInt32 >>> ((16 : Int32) &&& 31).toUInt32).toInt32)) := ⟨_, rfl⟩
  rw [← hz2]
  show Go p.tables e below s₁ (mkF m 33 #[.val (.int z2), .val (.int (if p1 < (65536 : Int32) then (31 : Int32) else ((31 : Int32) + (-16 : Int32))))] []) _
  obtain ⟨z3, hz3⟩ : ∃ z : Int32, z = (if p1 < (65536 : Int32) then (31 : Int32) else ((31 : Int32) + (-16 : Int32))) := ⟨_, rfl⟩
  rw [← hz3]
  show Go p.tables e below s₁ (mkF m 33 #[.val (.int z2), .val (.int z3)] []) _
  refine go1 (fun _ => XS.iloadN X0.here hx rfl (hb hby d5_33) rfl) ?_
  show Go p.tables e below s₁ (mkF m 34 #[.val (.int z2), .val (.int z3)] [(.int z2)]) _
  refine go1 (fun _ => XS.sipush X0.here hx rfl (hb hby d5_34)) ?_
  show Go p.tables e below s₁ (mkF m 37 #[.val (.int z2), .val (.int z3)] [(.int (256 : Int32)), (.int z2)]) _
  refine go1 (T' := s₁) (g' := (mkF m 48 #[.val (.int (if z2 < (256 : Int32) then z2 else ((z2.toUInt32 >>> ((8 : Int32) &&& 31).toUInt32).toInt32))), .val (.int (if z2 < (256 : Int32) then z3 else (z3 + (-8 : Int32))))] [])) (fun t k => ?_) ?_
  · by_cases hd4 : z2 < (256 : Int32)
    · skip
      rw [(if_pos hd4 : (if z2 < (256 : Int32) then z2 else ((z2.toUInt32 >>> ((8 : Int32) &&& 31).toUInt32).toInt32)) = z2), (if_pos hd4 : (if z2 < (256 : Int32) then z3 else (z3 + (-8 : Int32))) = z3)] at k
      show Steps p.tables e below (s₁.setTop (mkF m 37 #[.val (.int z2), .val (.int z3)] [(.int (256 : Int32)), (.int z2)])) _
      refine XS.icmpYes X0.here hx rfl (pc0 := 37) (pc' := 48) rfl (hb hby d5_37) rfl (tlt hd4).1 (by decide) (by decide) ?_
      show Steps p.tables e below (s₁.setTop (mkF m 48 #[.val (.int z2), .val (.int z3)] [])) _
      exact k
    · skip
      rw [(if_neg hd4 : (if z2 < (256 : Int32) then z2 else ((z2.toUInt32 >>> ((8 : Int32) &&& 31).toUInt32).toInt32)) = ((z2.toUInt32 >>> ((8 : Int32) &&& 31).toUInt32).toInt32)), (if_neg hd4 : (if z2 < (256 : Int32) then z3 else (z3 + (-8 : Int32))) = (z3 + (-8 : Int32)))] at k
      show Steps p.tables e below (s₁.setTop (mkF m 37 #[.val (.int z2), .val (.int z3)] [(.int (256 : Int32)), (.int z2)])) _
      refine XS.icmpNo X0.here hx rfl (hb hby d5_37) rfl (flt hd4).1 ?_
      show Steps p.tables e below (s₁.setTop (mkF m 40 #[.val (.int z2), .val (.int z3)] [])) _
      refine XS.iinc X0.here hx rfl (hb hby d5_40) rfl (l' := #[.val (.int z2), .val (.int (z3 + (-8 : Int32)))]) rfl ?_
      show Steps p.tables e below (s₁.setTop (mkF m 43 #[.val (.int z2), .val (.int (z3 + (-8 : Int32)))] [])) _
      refine XS.iloadN X0.here hx rfl (hb hby d5_43) rfl ?_
      show Steps p.tables e below (s₁.setTop (mkF m 44 #[.val (.int z2), .val (.int (z3 + (-8 : Int32)))] [(.int z2)])) _
      refine XS.bipush X0.here hx rfl (hb hby d5_44) ?_
      show Steps p.tables e below (s₁.setTop (mkF m 46 #[.val (.int z2), .val (.int (z3 + (-8 : Int32)))] [(.int (8 : Int32)), (.int z2)])) _
      refine XS.iushr X0.here hx rfl (hb hby d5_46) rfl ?_
      show Steps p.tables e below (s₁.setTop (mkF m 47 #[.val (.int z2), .val (.int (z3 + (-8 : Int32)))] [(.int ((z2.toUInt32 >>> ((8 : Int32) &&& 31).toUInt32).toInt32))])) _
      refine XS.istoreN X0.here hx rfl (hb hby d5_47) rfl (l' := #[.val (.int ((z2.toUInt32 >>> ((8 : Int32) &&& 31).toUInt32).toInt32)), .val (.int (z3 + (-8 : Int32)))]) rfl ?_
      show Steps p.tables e below (s₁.setTop (mkF m 48 #[.val (.int ((z2.toUInt32 >>> ((8 : Int32) &&& 31).toUInt32).toInt32)), .val (.int (z3 + (-8 : Int32)))] [])) _
      exact k
  show Go p.tables e below s₁ (mkF m 48 #[.val (.int (if z2 < (256 : Int32) then z2 else ((z2.toUInt32 >>> ((8 : Int32) &&& 31).toUInt32).toInt32))), .val (.int (if z2 < (256 : Int32) then z3 else (z3 + (-8 : Int32))))] []) _
  obtain ⟨z5, hz5⟩ : ∃ z : Int32, z = (if z2 < (256 : Int32) then z2 else ((z2.toUInt32 >>> ((8 : Int32) &&& 31).toUInt32).toInt32)) := ⟨_, rfl⟩
  rw [← hz5]
  show Go p.tables e below s₁ (mkF m 48 #[.val (.int z5), .val (.int (if z2 < (256 : Int32) then z3 else (z3 + (-8 : Int32))))] []) _
  obtain ⟨z6, hz6⟩ : ∃ z : Int32, z = (if z2 < (256 : Int32) then z3 else (z3 + (-8 : Int32))) := ⟨_, rfl⟩
  rw [← hz6]
  show Go p.tables e below s₁ (mkF m 48 #[.val (.int z5), .val (.int z6)] []) _
  refine go1 (fun _ => XS.iloadN X0.here hx rfl (hb hby d5_48) rfl) ?_
  show Go p.tables e below s₁ (mkF m 49 #[.val (.int z5), .val (.int z6)] [(.int z5)]) _
  refine go1 (fun _ => XS.bipush X0.here hx rfl (hb hby d5_49)) ?_
  show Go p.tables e below s₁ (mkF m 51 #[.val (.int z5), .val (.int z6)] [(.int (16 : Int32)), (.int z5)]) _
  refine go1 (T' := s₁) (g' := (mkF m 61 #[.val (.int (if z5 < (16 : Int32) then z5 else ((z5.toUInt32 >>> ((4 : Int32) &&& 31).toUInt32).toInt32))), .val (.int (if z5 < (16 : Int32) then z6 else (z6 + (-4 : Int32))))] [])) (fun t k => ?_) ?_
  · by_cases hd7 : z5 < (16 : Int32)
    · skip
      rw [(if_pos hd7 : (if z5 < (16 : Int32) then z5 else ((z5.toUInt32 >>> ((4 : Int32) &&& 31).toUInt32).toInt32)) = z5), (if_pos hd7 : (if z5 < (16 : Int32) then z6 else (z6 + (-4 : Int32))) = z6)] at k
      show Steps p.tables e below (s₁.setTop (mkF m 51 #[.val (.int z5), .val (.int z6)] [(.int (16 : Int32)), (.int z5)])) _
      refine XS.icmpYes X0.here hx rfl (pc0 := 51) (pc' := 61) rfl (hb hby d5_51) rfl (tlt hd7).1 (by decide) (by decide) ?_
      show Steps p.tables e below (s₁.setTop (mkF m 61 #[.val (.int z5), .val (.int z6)] [])) _
      exact k
    · skip
      rw [(if_neg hd7 : (if z5 < (16 : Int32) then z5 else ((z5.toUInt32 >>> ((4 : Int32) &&& 31).toUInt32).toInt32)) = ((z5.toUInt32 >>> ((4 : Int32) &&& 31).toUInt32).toInt32)), (if_neg hd7 : (if z5 < (16 : Int32) then z6 else (z6 + (-4 : Int32))) = (z6 + (-4 : Int32)))] at k
      show Steps p.tables e below (s₁.setTop (mkF m 51 #[.val (.int z5), .val (.int z6)] [(.int (16 : Int32)), (.int z5)])) _
      refine XS.icmpNo X0.here hx rfl (hb hby d5_51) rfl (flt hd7).1 ?_
      show Steps p.tables e below (s₁.setTop (mkF m 54 #[.val (.int z5), .val (.int z6)] [])) _
      refine XS.iinc X0.here hx rfl (hb hby d5_54) rfl (l' := #[.val (.int z5), .val (.int (z6 + (-4 : Int32)))]) rfl ?_
      show Steps p.tables e below (s₁.setTop (mkF m 57 #[.val (.int z5), .val (.int (z6 + (-4 : Int32)))] [])) _
      refine XS.iloadN X0.here hx rfl (hb hby d5_57) rfl ?_
      show Steps p.tables e below (s₁.setTop (mkF m 58 #[.val (.int z5), .val (.int (z6 + (-4 : Int32)))] [(.int z5)])) _
      refine XS.iconst X0.here hx rfl (hb hby d5_58) ?_
      show Steps p.tables e below (s₁.setTop (mkF m 59 #[.val (.int z5), .val (.int (z6 + (-4 : Int32)))] [(.int (4 : Int32)), (.int z5)])) _
      refine XS.iushr X0.here hx rfl (hb hby d5_59) rfl ?_
      show Steps p.tables e below (s₁.setTop (mkF m 60 #[.val (.int z5), .val (.int (z6 + (-4 : Int32)))] [(.int ((z5.toUInt32 >>> ((4 : Int32) &&& 31).toUInt32).toInt32))])) _
      refine XS.istoreN X0.here hx rfl (hb hby d5_60) rfl (l' := #[.val (.int ((z5.toUInt32 >>> ((4 : Int32) &&& 31).toUInt32).toInt32)), .val (.int (z6 + (-4 : Int32)))]) rfl ?_
      show Steps p.tables e below (s₁.setTop (mkF m 61 #[.val (.int ((z5.toUInt32 >>> ((4 : Int32) &&& 31).toUInt32).toInt32)), .val (.int (z6 + (-4 : Int32)))] [])) _
      exact k
  show Go p.tables e below s₁ (mkF m 61 #[.val (.int (if z5 < (16 : Int32) then z5 else ((z5.toUInt32 >>> ((4 : Int32) &&& 31).toUInt32).toInt32))), .val (.int (if z5 < (16 : Int32) then z6 else (z6 + (-4 : Int32))))] []) _
  obtain ⟨z8, hz8⟩ : ∃ z : Int32, z = (if z5 < (16 : Int32) then z5 else ((z5.toUInt32 >>> ((4 : Int32) &&& 31).toUInt32).toInt32)) := ⟨_, rfl⟩
  rw [← hz8]
  show Go p.tables e below s₁ (mkF m 61 #[.val (.int z8), .val (.int (if z5 < (16 : Int32) then z6 else (z6 + (-4 : Int32))))] []) _
  obtain ⟨z9, hz9⟩ : ∃ z : Int32, z = (if z5 < (16 : Int32) then z6 else (z6 + (-4 : Int32))) := ⟨_, rfl⟩
  rw [← hz9]
  show Go p.tables e below s₁ (mkF m 61 #[.val (.int z8), .val (.int z9)] []) _
  refine go1 (fun _ => XS.iloadN X0.here hx rfl (hb hby d5_61) rfl) ?_
  show Go p.tables e below s₁ (mkF m 62 #[.val (.int z8), .val (.int z9)] [(.int z8)]) _
  refine go1 (fun _ => XS.iconst X0.here hx rfl (hb hby d5_62)) ?_
  show Go p.tables e below s₁ (mkF m 63 #[.val (.int z8), .val (.int z9)] [(.int (4 : Int32)), (.int z8)]) _
  refine go1 (T' := s₁) (g' := (mkF m 73 #[.val (.int (if z8 < (4 : Int32) then z8 else ((z8.toUInt32 >>> ((2 : Int32) &&& 31).toUInt32).toInt32))), .val (.int (if z8 < (4 : Int32) then z9 else (z9 + (-2 : Int32))))] [])) (fun t k => ?_) ?_
  · by_cases hd10 : z8 < (4 : Int32)
    · skip
      rw [(if_pos hd10 : (if z8 < (4 : Int32) then z8 else ((z8.toUInt32 >>> ((2 : Int32) &&& 31).toUInt32).toInt32)) = z8), (if_pos hd10 : (if z8 < (4 : Int32) then z9 else (z9 + (-2 : Int32))) = z9)] at k
      show Steps p.tables e below (s₁.setTop (mkF m 63 #[.val (.int z8), .val (.int z9)] [(.int (4 : Int32)), (.int z8)])) _
      refine XS.icmpYes X0.here hx rfl (pc0 := 63) (pc' := 73) rfl (hb hby d5_63) rfl (tlt hd10).1 (by decide) (by decide) ?_
      show Steps p.tables e below (s₁.setTop (mkF m 73 #[.val (.int z8), .val (.int z9)] [])) _
      exact k
    · skip
      rw [(if_neg hd10 : (if z8 < (4 : Int32) then z8 else ((z8.toUInt32 >>> ((2 : Int32) &&& 31).toUInt32).toInt32)) = ((z8.toUInt32 >>> ((2 : Int32) &&& 31).toUInt32).toInt32)), (if_neg hd10 : (if z8 < (4 : Int32) then z9 else (z9 + (-2 : Int32))) = (z9 + (-2 : Int32)))] at k
      show Steps p.tables e below (s₁.setTop (mkF m 63 #[.val (.int z8), .val (.int z9)] [(.int (4 : Int32)), (.int z8)])) _
      refine XS.icmpNo X0.here hx rfl (hb hby d5_63) rfl (flt hd10).1 ?_
      show Steps p.tables e below (s₁.setTop (mkF m 66 #[.val (.int z8), .val (.int z9)] [])) _
      refine XS.iinc X0.here hx rfl (hb hby d5_66) rfl (l' := #[.val (.int z8), .val (.int (z9 + (-2 : Int32)))]) rfl ?_
      show Steps p.tables e below (s₁.setTop (mkF m 69 #[.val (.int z8), .val (.int (z9 + (-2 : Int32)))] [])) _
      refine XS.iloadN X0.here hx rfl (hb hby d5_69) rfl ?_
      show Steps p.tables e below (s₁.setTop (mkF m 70 #[.val (.int z8), .val (.int (z9 + (-2 : Int32)))] [(.int z8)])) _
      refine XS.iconst X0.here hx rfl (hb hby d5_70) ?_
      show Steps p.tables e below (s₁.setTop (mkF m 71 #[.val (.int z8), .val (.int (z9 + (-2 : Int32)))] [(.int (2 : Int32)), (.int z8)])) _
      refine XS.iushr X0.here hx rfl (hb hby d5_71) rfl ?_
      show Steps p.tables e below (s₁.setTop (mkF m 72 #[.val (.int z8), .val (.int (z9 + (-2 : Int32)))] [(.int ((z8.toUInt32 >>> ((2 : Int32) &&& 31).toUInt32).toInt32))])) _
      refine XS.istoreN X0.here hx rfl (hb hby d5_72) rfl (l' := #[.val (.int ((z8.toUInt32 >>> ((2 : Int32) &&& 31).toUInt32).toInt32)), .val (.int (z9 + (-2 : Int32)))]) rfl ?_
      show Steps p.tables e below (s₁.setTop (mkF m 73 #[.val (.int ((z8.toUInt32 >>> ((2 : Int32) &&& 31).toUInt32).toInt32)), .val (.int (z9 + (-2 : Int32)))] [])) _
      exact k
  show Go p.tables e below s₁ (mkF m 73 #[.val (.int (if z8 < (4 : Int32) then z8 else ((z8.toUInt32 >>> ((2 : Int32) &&& 31).toUInt32).toInt32))), .val (.int (if z8 < (4 : Int32) then z9 else (z9 + (-2 : Int32))))] []) _
  obtain ⟨z11, hz11⟩ : ∃ z : Int32, z = (if z8 < (4 : Int32) then z8 else ((z8.toUInt32 >>> ((2 : Int32) &&& 31).toUInt32).toInt32)) := ⟨_, rfl⟩
  rw [← hz11]
  show Go p.tables e below s₁ (mkF m 73 #[.val (.int z11), .val (.int (if z8 < (4 : Int32) then z9 else (z9 + (-2 : Int32))))] []) _
  obtain ⟨z12, hz12⟩ : ∃ z : Int32, z = (if z8 < (4 : Int32) then z9 else (z9 + (-2 : Int32))) := ⟨_, rfl⟩
  rw [← hz12]
  show Go p.tables e below s₁ (mkF m 73 #[.val (.int z11), .val (.int z12)] []) _
  refine go1 (fun _ => XS.iloadN X0.here hx rfl (hb hby d5_73) rfl) ?_
  show Go p.tables e below s₁ (mkF m 74 #[.val (.int z11), .val (.int z12)] [(.int z12)]) _
  refine go1 (fun _ => XS.iloadN X0.here hx rfl (hb hby d5_74) rfl) ?_
  show Go p.tables e below s₁ (mkF m 75 #[.val (.int z11), .val (.int z12)] [(.int z11), (.int z12)]) _
  refine go1 (fun _ => XS.iconst X0.here hx rfl (hb hby d5_75)) ?_
  show Go p.tables e below s₁ (mkF m 76 #[.val (.int z11), .val (.int z12)] [(.int (1 : Int32)), (.int z11), (.int z12)]) _
  refine go1 (fun _ => XS.iushr X0.here hx rfl (hb hby d5_76) rfl) ?_
  show Go p.tables e below s₁ (mkF m 77 #[.val (.int z11), .val (.int z12)] [(.int ((z11.toUInt32 >>> ((1 : Int32) &&& 31).toUInt32).toInt32)), (.int z12)]) _
  refine go1 (fun _ => XS.isub X0.here hx rfl (hb hby d5_77) rfl) ?_
  show Go p.tables e below s₁ (mkF m 78 #[.val (.int z11), .val (.int z12)] [(.int (z12 - ((z11.toUInt32 >>> ((1 : Int32) &&& 31).toUInt32).toInt32)))]) _
  refine goR X0 (BodyLoose.notSynchronized Bd) (v := (some (.int (z12 - ((z11.toUInt32 >>> ((1 : Int32) &&& 31).toUInt32).toInt32))))) (fun h => by rw [Bd.returns] at h; cases h) (Q5 Z p1 h0 n0) (fun fs hr => retI X0 hx Bd.returns (hb hby d5_78) hr) (by decide) (by decide) ?_
  show Q5 Z p1 h0 n0 _ s₁.heap _
  rw [e0]
  exact ⟨(z12 - ((z11.toUInt32 >>> ((1 : Int32) &&& 31).toUInt32).toInt32)), rfl, N0, rfl, (own_nlzb p1 z2 z3 z5 z6 z8 z9 z11 z12 h1 h2 hz2 hz3 hz5 hz6 hz8 hz9 hz11 hz12)⟩
theorem d4_0 : decode prog_13_method_24_code 0 = .ok (.bipush 32, 2) := by decide +kernel
theorem d4_2 : decode prog_13_method_24_code 2 = .ok (.iload_n 0, 1) := by decide +kernel
theorem d4_3 : decode prog_13_method_24_code 3 = .ok (.iconst 1, 1) := by decide +kernel
theorem d4_4 : decode prog_13_method_24_code 4 = .ok (.iadd, 1) := by decide +kernel
theorem d4_5 : decode prog_13_method_24_code 5 = .ok (.invokestatic 156, 3) := by decide +kernel
theorem d4_8 : decode prog_13_method_24_code 8 = .ok (.isub, 1) := by decide +kernel
theorem d4_9 : decode prog_13_method_24_code 9 = .ok (.istore_n 1, 1) := by decide +kernel
theorem d4_10 : decode prog_13_method_24_code 10 = .ok (.iconst 2, 1) := by decide +kernel
theorem d4_11 : decode prog_13_method_24_code 11 = .ok (.iload_n 1, 1) := by decide +kernel
theorem d4_12 : decode prog_13_method_24_code 12 = .ok (.imul, 1) := by decide +kernel
theorem d4_13 : decode prog_13_method_24_code 13 = .ok (.ireturn, 1) := by decide +kernel
theorem pn_4 : plainName "com/example/carmine/carmine/Walk" = true := by first | (simp [plainName, overriddenIn]; done) | decide +kernel
theorem pd4_0 : parseMethodDescriptor "(I)I" = some ⟨[.int], some .int⟩ := by decide +kernel
theorem ef_4 (m : MethodId) (p1 : Int32) : entryFrame m #[(.int p1)] 2 = mkF m 0 #[.val (.int p1), .unset] [] := by first | (simp [entryFrame, mkF, argsToLocals, Value.category]; done) | rfl
def Q4 (Z : State) (p1 : Int32) (h0 : Heap) (n0 : Nat) (v : Option Value) (h : Heap) (L : List Loc) : Prop := ∃ (y : Int32), v = some (.int y) ∧ Fr n0 L ∧ h = h0 ∧ (0 : Int32) < y ∧ ¬ (y < (0 : Int32)) ∧ (y).toNatClampNeg ≤ 62 ∧ (y).toInt ≤ 62
set_option maxRecDepth 65536 in
set_option maxHeartbeats 40000000 in
theorem rm4 (l : Launch) (Z : State) (a0 : Array Value) (hw : ∀ d ∈ tables_1, d.before a0 Z = true) (ws : List Jvm.Cond) (p1 : Int32) (h0 : Heap) (n0 : Nat) (Z0 : n0 ≤ h0.size) (hp1 : ¬ (p1 < (0 : Int32))) (hp2 : ¬ ((1073741823 : Int32) < p1)) :
    MetFree l (⟨"com/example/carmine/carmine/Walk", "length", "(I)I"⟩ : MethodName) (head1 (Jvm.Cond.code (⟨"com/example/carmine/carmine/Walk", "length", "(I)I"⟩ : MethodName) prog_13_method_24_code 2 (some .int) :: ws) ({ frames := 1, cells := 0, slots := 0, locals := 14 } : Room)) (fun a U => a = #[(.int p1)] ∧ Z.Warmed39 U.vm ∧ U.heap = h0) (fun _ _ _ _ _ => True) (fun _ U o U' => ∃ v L, o = .returned v ∧ Q4 Z p1 h0 n0 v U'.heap L ∧ FrameEnd U o U' L ({ frames := 1, cells := 0, slots := 0, locals := 14 } : Room).cells ({ frames := 1, cells := 0, slots := 0, locals := 14 } : Room).slots) := by
  refine MetFree.of_bodySF (plainFor_of_name pn_4) hisR ?_
  intro p e s m args below meth c s₁ Bd hml0 hP hK
  obtain ⟨rfl, hZ, hh⟩ := hP
  have hx := Bd.exec
  have hby := Bd.bytes
  have hml : c.maxLocals = 2 := hml0
  have hown : s.vm.findClass "com/example/carmine/carmine/Walk" = some m.cls := findClass_of_methodNamed Bd.named
  have hnm := (name_of_methodNamed Bd.named Bd.method).1
  have X0 : Stand p l e ({ frames := 1, cells := 0, slots := 0, locals := 14 } : Room) s m #[(.int p1)] below meth c s₁ [] 0 0 := Stand.of_body Bd
  have e0 : s₁.heap = h0 := by rw [← hh, Bd.state]; rfl
  have N0 := Fr.nil n0
  refine goB (ef_4 m p1) ?_
  show Go p.tables e below s₁ (mkF m 0 #[.val (.int p1), .unset] []) _
  refine go1 (fun _ => XS.bipush X0.here hx rfl (hb hby d4_0)) ?_
  show Go p.tables e below s₁ (mkF m 2 #[.val (.int p1), .unset] [(.int (32 : Int32))]) _
  refine go1 (fun _ => XS.iloadN X0.here hx rfl (hb hby d4_2) rfl) ?_
  show Go p.tables e below s₁ (mkF m 3 #[.val (.int p1), .unset] [(.int p1), (.int (32 : Int32))]) _
  refine go1 (fun _ => XS.iconst X0.here hx rfl (hb hby d4_3)) ?_
  show Go p.tables e below s₁ (mkF m 4 #[.val (.int p1), .unset] [(.int (1 : Int32)), (.int p1), (.int (32 : Int32))]) _
  refine go1 (fun _ => XS.iadd X0.here hx rfl (hb hby d4_4) rfl) ?_
  show Go p.tables e below s₁ (mkF m 5 #[.val (.int p1), .unset] [(.int (p1 + (1 : Int32))), (.int (32 : Int32))]) _
  obtain ⟨_, _, ⟨T1, L1, k1, n1⟩, -, X1, ⟨Lc1, hQ1, l1, y1, z1⟩, st1⟩ := Jvm.LawKit.callS X0 hx (y := (⟨"java/lang/Integer", "numberOfLeadingZeros", "(I)I"⟩ : MethodName)) hown (mvT hZ (hw _ (List.mem_of_getElem? (i := 18) rfl))) (mvT hZ (hw _ (List.mem_of_getElem? (i := 19) rfl))) (mvT hZ (hw _ (List.mem_of_getElem? (i := 20) rfl))) (mvT hZ (hw _ (List.mem_of_getElem? (i := 21) rfl))) (by decide) (backOf (W := 1) (rm5 l Z a0 hw [] (p1 + (1 : Int32)) h0 n0 Z0 (own_pp p1 hp1 hp2).1 (own_pp p1 hp1 hp2).2) hZ (hw _ (List.mem_of_getElem? (i := 21) rfl)) (hw _ (List.mem_of_getElem? (i := 20) rfl)) (by decide) (by decide)) (g := (mkF m 5 #[.val (.int p1), .unset] [(.int (p1 + (1 : Int32))), (.int (32 : Int32))])) rfl (by rw [hml]; rfl) (argsL := [(.int (p1 + (1 : Int32)))]) (rest := [(.int (32 : Int32))]) (lenOf pd4_0 rfl) rfl (by show 2 * 0 + _ ≤ _; exact Nat.le_of_eq rfl) (hb hby d4_5) (fun _ _ => ⟨rfl, e0, (by decide : 0 + 0 ≤ _), (by decide : 0 + 0 ≤ _)⟩)
  dsimp only [Pt.U, Pt.locs, Pt.cells, Pt.slots] at X1 l1 y1 z1 st1 hQ1
  subst l1 y1 z1
  obtain ⟨z2, rfl, N1q, e1, G1_0⟩ := hQ1
  have N1 := Fr.app N0 N1q
  refine go1 st1 ?_
  show Go p.tables e below T1 (mkF m 8 #[.val (.int p1), .unset] [(.int z2), (.int (32 : Int32))]) _
  refine go1 (fun _ => XS.isub X1.here hx rfl (hb hby d4_8) rfl) ?_
  show Go p.tables e below T1 (mkF m 9 #[.val (.int p1), .unset] [(.int ((32 : Int32) - z2))]) _
  refine go1 (fun _ => XS.istoreN X1.here hx rfl (hb hby d4_9) rfl (l' := #[.val (.int p1), .val (.int ((32 : Int32) - z2))]) rfl) ?_
  show Go p.tables e below T1 (mkF m 10 #[.val (.int p1), .val (.int ((32 : Int32) - z2))] []) _
  refine go1 (fun _ => XS.iconst X1.here hx rfl (hb hby d4_10)) ?_
  show Go p.tables e below T1 (mkF m 11 #[.val (.int p1), .val (.int ((32 : Int32) - z2))] [(.int (2 : Int32))]) _
  refine go1 (fun _ => XS.iloadN X1.here hx rfl (hb hby d4_11) rfl) ?_
  show Go p.tables e below T1 (mkF m 12 #[.val (.int p1), .val (.int ((32 : Int32) - z2))] [(.int ((32 : Int32) - z2)), (.int (2 : Int32))]) _
  refine go1 (fun _ => XS.imul X1.here hx rfl (hb hby d4_12) rfl) ?_
  show Go p.tables e below T1 (mkF m 13 #[.val (.int p1), .val (.int ((32 : Int32) - z2))] [(.int ((2 : Int32) * ((32 : Int32) - z2)))]) _
  refine goR X1 (BodyLoose.notSynchronized Bd) (v := (some (.int ((2 : Int32) * ((32 : Int32) - z2))))) (fun h => by rw [Bd.returns] at h; cases h) (Q4 Z p1 h0 n0) (fun fs hr => retI X1 hx Bd.returns (hb hby d4_13) hr) (by decide) (by decide) ?_
  show Q4 Z p1 h0 n0 _ T1.heap _
  rw [e1]
  exact ⟨((2 : Int32) * ((32 : Int32) - z2)), rfl, N1, rfl, (own_l2 z2 G1_0).1, (own_l2 z2 G1_0).2.1, (own_l2 z2 G1_0).2.2.1, (own_l2 z2 G1_0).2.2.2⟩
theorem d3_0 : decode prog_13_method_22_code 0 = .ok (.iload_n 0, 1) := by decide +kernel
theorem d3_1 : decode prog_13_method_22_code 1 = .ok (.invokestatic 28, 3) := by decide +kernel
theorem d3_4 : decode prog_13_method_22_code 4 = .ok (.anewarray 32, 3) := by decide +kernel
theorem d3_7 : decode prog_13_method_22_code 7 = .ok (.areturn, 1) := by decide +kernel
theorem pn_3 : plainName "com/example/carmine/carmine/Walk" = true := by first | (simp [plainName, overriddenIn]; done) | decide +kernel
theorem pd3_0 : parseMethodDescriptor "(I)I" = some ⟨[.int], some .int⟩ := by decide +kernel
theorem ef_3 (m : MethodId) (p1 : Int32) : entryFrame m #[(.int p1)] 1 = mkF m 0 #[.val (.int p1)] [] := by first | (simp [entryFrame, mkF, argsToLocals, Value.category]; done) | rfl
def Q3 (Z : State) (p1 : Int32) (h0 : Heap) (n0 : Nat) (v : Option Value) (h : Heap) (L : List Loc) : Prop := ∃ (b : Addr) (k : ClassId) (y : Int32), v = some (.ref b) ∧ Fr n0 L ∧ Keep h0 h [] ∧ n0 ≤ b ∧ h0.size ≤ b ∧ Arv Z h b k (.object "com/example/carmine/carmine/Node") y [] .null ∧ (0 : Int32) < y ∧ ¬ (y < (0 : Int32)) ∧ (y).toNatClampNeg ≤ 62 ∧ (y).toInt ≤ 62
set_option maxRecDepth 65536 in
set_option maxHeartbeats 40000000 in
theorem rm3 (l : Launch) (Z : State) (a0 : Array Value) (hw : ∀ d ∈ tables_1, d.before a0 Z = true) (ws : List Jvm.Cond) (p1 : Int32) (h0 : Heap) (n0 : Nat) (Z0 : n0 ≤ h0.size) (hp1 : ¬ (p1 < (0 : Int32))) (hp2 : ¬ ((1073741823 : Int32) < p1)) :
    MetFree l (⟨"com/example/carmine/carmine/Walk", "newNodes", "(I)[Lcom/example/carmine/carmine/Node;"⟩ : MethodName) (head1 (Jvm.Cond.code (⟨"com/example/carmine/carmine/Walk", "newNodes", "(I)[Lcom/example/carmine/carmine/Node;"⟩ : MethodName) prog_13_method_22_code 1 (some (.array (.object "com/example/carmine/carmine/Node"))) :: ws) ({ frames := 2, cells := 1, slots := 62, locals := 27 } : Room)) (fun a U => a = #[(.int p1)] ∧ Z.Warmed39 U.vm ∧ U.heap = h0) (fun _ _ _ _ _ => True) (fun _ U o U' => ∃ v L, o = .returned v ∧ Q3 Z p1 h0 n0 v U'.heap L ∧ FrameEnd U o U' L ({ frames := 2, cells := 1, slots := 62, locals := 27 } : Room).cells ({ frames := 2, cells := 1, slots := 62, locals := 27 } : Room).slots) := by
  refine MetFree.of_bodySF (plainFor_of_name pn_3) hisR ?_
  intro p e s m args below meth c s₁ Bd hml0 hP hK
  obtain ⟨rfl, hZ, hh⟩ := hP
  have hx := Bd.exec
  have hby := Bd.bytes
  have hml : c.maxLocals = 1 := hml0
  have hown : s.vm.findClass "com/example/carmine/carmine/Walk" = some m.cls := findClass_of_methodNamed Bd.named
  have hnm := (name_of_methodNamed Bd.named Bd.method).1
  have X0 : Stand p l e ({ frames := 2, cells := 1, slots := 62, locals := 27 } : Room) s m #[(.int p1)] below meth c s₁ [] 0 0 := Stand.of_body Bd
  have e0 : s₁.heap = h0 := by rw [← hh, Bd.state]; rfl
  have N0 := Fr.nil n0
  refine goB (ef_3 m p1) ?_
  show Go p.tables e below s₁ (mkF m 0 #[.val (.int p1)] []) _
  refine go1 (fun _ => XS.iloadN X0.here hx rfl (hb hby d3_0) rfl) ?_
  show Go p.tables e below s₁ (mkF m 1 #[.val (.int p1)] [(.int p1)]) _
  obtain ⟨_, _, ⟨T1, L1, k1, n1⟩, -, X1, ⟨Lc1, hQ1, l1, y1, z1⟩, st1⟩ := Jvm.LawKit.callS X0 hx (y := (⟨"com/example/carmine/carmine/Walk", "length", "(I)I"⟩ : MethodName)) hown (mvT hZ (hw _ (List.mem_of_getElem? (i := 15) rfl))) (mvT hZ (hw _ (List.mem_of_getElem? (i := 16) rfl))) (mvT hZ (hw _ (List.mem_of_getElem? (i := 3) rfl))) (mvT hZ (hw _ (List.mem_of_getElem? (i := 17) rfl))) (by decide) (backOf (W := 0) (rm4 l Z a0 hw [] p1 h0 n0 Z0 hp1 hp2) hZ (hw _ (List.mem_of_getElem? (i := 17) rfl)) (hw _ (List.mem_of_getElem? (i := 3) rfl)) (by decide) (by decide)) (g := (mkF m 1 #[.val (.int p1)] [(.int p1)])) rfl (by rw [hml]; rfl) (argsL := [(.int p1)]) (rest := []) (lenOf pd3_0 rfl) rfl (by show 2 * 0 + _ ≤ _; exact Nat.le_of_eq rfl) (hb hby d3_1) (fun _ _ => ⟨rfl, e0, (by decide : 0 + 0 ≤ _), (by decide : 0 + 0 ≤ _)⟩)
  dsimp only [Pt.U, Pt.locs, Pt.cells, Pt.slots] at X1 l1 y1 z1 st1 hQ1
  subst l1 y1 z1
  obtain ⟨y2, rfl, N1q, e1, G1_0, G1_1, G1_2, G1_3⟩ := hQ1
  have N1 := Fr.app N0 N1q
  refine go1 st1 ?_
  show Go p.tables e below T1 (mkF m 4 #[.val (.int p1)] [(.int y2)]) _
  obtain ⟨T3, h3, k3, X3, e3, E3, A3, O3, st3⟩ := newR X1 hx hZ hown (hw _ (List.mem_of_getElem? (i := 23) rfl)) (hw _ (List.mem_of_getElem? (i := 24) rfl)) e1 (g := (mkF m 4 #[.val (.int p1)] [(.int y2)])) rfl (hb hby d3_4) rfl G1_1 (cap := 62) G1_2 (by decide) (by decide) (by decide)
  obtain ⟨b3, g3⟩ : ∃ z, z = h0.size := ⟨_, rfl⟩
  rw [← g3] at A3 st3
  have g_b3 : n0 ≤ b3 := Nat.le_trans Z0 (Nat.le_of_eq g3.symm)
  have V_b3 : Arv Z h3 b3 k3 (.object "com/example/carmine/carmine/Node") y2 [] .null := Arv.new A3 G1_1
  refine go1 st3 ?_
  show Go p.tables e below T3 (mkF m 7 #[.val (.int p1)] [(.ref b3)]) _
  refine goR X3 (BodyLoose.notSynchronized Bd) (v := (some (.ref b3))) (fun h => by rw [Bd.returns] at h; cases h) (Q3 Z p1 h0 n0) (fun fs hr => retOut X3 hx (t := (.array (.object "com/example/carmine/carmine/Node"))) (w := (.ref b3)) Bd.returns rfl (Or.inr (Or.inr (Or.inr (Or.inr ⟨rfl, rfl, rfl⟩)))) (hb hby d3_7) hr) (by decide) (by decide) ?_
  show Q3 Z p1 h0 n0 _ T3.heap _
  rw [e3]
  exact ⟨b3, k3, y2, rfl, N1, ((Keep.refl h0 []).ext E3), g_b3, (Nat.le_trans (Nat.le_refl h0.size) (Nat.le_of_eq g3.symm)), V_b3, (by first | assumption | decide | rfl), (by first | assumption | decide | rfl), (by first | assumption | decide | rfl), (by first | assumption | decide | rfl)⟩
theorem d1_0 : decode prog_13_method_2_code 0 = .ok (.aload_n 0, 1) := by decide +kernel
theorem d1_1 : decode prog_13_method_2_code 1 = .ok (.invokespecial 7, 3) := by decide +kernel
theorem d1_4 : decode prog_13_method_2_code 4 = .ok (.aload_n 0, 1) := by decide +kernel
theorem d1_5 : decode prog_13_method_2_code 5 = .ok (.iconst 1, 1) := by decide +kernel
theorem d1_6 : decode prog_13_method_2_code 6 = .ok (.putfield 12, 3) := by decide +kernel
theorem d1_9 : decode prog_13_method_2_code 9 = .ok (.aload_n 0, 1) := by decide +kernel
theorem d1_10 : decode prog_13_method_2_code 10 = .ok (.iload_n 1, 1) := by decide +kernel
theorem d1_11 : decode prog_13_method_2_code 11 = .ok (.invokestatic 16, 3) := by decide +kernel
theorem d1_14 : decode prog_13_method_2_code 14 = .ok (.putfield 20, 3) := by decide +kernel
theorem d1_17 : decode prog_13_method_2_code 17 = .ok (.aload_n 0, 1) := by decide +kernel
theorem d1_18 : decode prog_13_method_2_code 18 = .ok (.iload_n 2, 1) := by decide +kernel
theorem d1_19 : decode prog_13_method_2_code 19 = .ok (.putfield 24, 3) := by decide +kernel
theorem d1_22 : decode prog_13_method_2_code 22 = .ok (.return_, 1) := by decide +kernel
theorem pn_1 : plainName "com/example/carmine/carmine/Walk" = true := by first | (simp [plainName, overriddenIn]; done) | decide +kernel
theorem pd1_0 : parseMethodDescriptor "(I)[Lcom/example/carmine/carmine/Node;" = some ⟨[.int], some (.array (.object "com/example/carmine/carmine/Node"))⟩ := by decide +kernel
theorem ef_1 (m : MethodId) (b1 : Addr) (p1 : Int32) (p2 : Int32) : entryFrame m #[(.ref b1), (.int p1), (.int p2)] 3 = mkF m 0 #[.val (.ref b1), .val (.int p1), .val (.int p2)] [] := by first | (simp [entryFrame, mkF, argsToLocals, Value.category]; done) | rfl
def Q1 (Z : State) (b1 : Addr) (p1 : Int32) (p2 : Int32) (h0 : Heap) (n0 : Nat) (v : Option Value) (h : Heap) (L : List Loc) : Prop := ∃ (nb : Addr) (k : ClassId) (y : Int32), v = none ∧ Fr n0 L ∧ Keep h0 h [b1] ∧ Exa Z h b1 "com/example/carmine/carmine/Walk" ∧ Fld Z h b1 "com/example/carmine/carmine/Walk" "nodes" "[Lcom/example/carmine/carmine/Node;" (.ref nb) ∧ n0 ≤ nb ∧ h0.size ≤ nb ∧ Arv Z h nb k (.object "com/example/carmine/carmine/Node") y [] .null ∧ Fld Z h b1 "com/example/carmine/carmine/Walk" "copying" "Z" (.int (nar .boolean p2)) ∧ Fld Z h b1 "com/example/carmine/carmine/Walk" "coldSpan" "I" (.int (1 : Int32)) ∧ Fld Z h b1 "com/example/carmine/carmine/Walk" "turns" "J" (.long (0 : Int64)) ∧ Fld Z h b1 "com/example/carmine/carmine/Walk" "depth" "I" (.int (0 : Int32)) ∧ Fld Z h b1 "com/example/carmine/carmine/Walk" "left" "Z" (.int (0 : Int32)) ∧ Fld Z h b1 "com/example/carmine/carmine/Walk" "valid" "I" (.int (0 : Int32)) ∧ Fld Z h b1 "com/example/carmine/carmine/Walk" "counted" "I" (.int (0 : Int32)) ∧ Fld Z h b1 "com/example/carmine/carmine/Walk" "rotations" "I" (.int (0 : Int32)) ∧ Fld Z h b1 "com/example/carmine/carmine/Walk" "coldDescents" "I" (.int (0 : Int32)) ∧ (0 : Int32) < y ∧ ¬ (y < (0 : Int32)) ∧ (y).toNatClampNeg ≤ 62 ∧ (y).toInt ≤ 62
set_option maxRecDepth 65536 in
set_option maxHeartbeats 40000000 in
theorem rm1 (l : Launch) (Z : State) (a0 : Array Value) (hw : ∀ d ∈ tables_1, d.before a0 Z = true) (ws : List Jvm.Cond) (b1 : Addr) (p1 : Int32) (p2 : Int32) (h0 : Heap) (n0 : Nat) (Z0 : n0 ≤ h0.size) (F_nodes_b1 : Fld Z h0 b1 "com/example/carmine/carmine/Walk" "nodes" "[Lcom/example/carmine/carmine/Node;" .null) (F_copying_b1 : Fld Z h0 b1 "com/example/carmine/carmine/Walk" "copying" "Z" (.int (0 : Int32))) (F_coldSpan_b1 : Fld Z h0 b1 "com/example/carmine/carmine/Walk" "coldSpan" "I" (.int (0 : Int32))) (F_turns_b1 : Fld Z h0 b1 "com/example/carmine/carmine/Walk" "turns" "J" (.long (0 : Int64))) (F_depth_b1 : Fld Z h0 b1 "com/example/carmine/carmine/Walk" "depth" "I" (.int (0 : Int32))) (F_left_b1 : Fld Z h0 b1 "com/example/carmine/carmine/Walk" "left" "Z" (.int (0 : Int32))) (F_valid_b1 : Fld Z h0 b1 "com/example/carmine/carmine/Walk" "valid" "I" (.int (0 : Int32))) (F_counted_b1 : Fld Z h0 b1 "com/example/carmine/carmine/Walk" "counted" "I" (.int (0 : Int32))) (F_rotations_b1 : Fld Z h0 b1 "com/example/carmine/carmine/Walk" "rotations" "I" (.int (0 : Int32))) (F_coldDescents_b1 : Fld Z h0 b1 "com/example/carmine/carmine/Walk" "coldDescents" "I" (.int (0 : Int32))) (E_b1 : Exa Z h0 b1 "com/example/carmine/carmine/Walk") (g_b1 : n0 ≤ b1) (hp1 : ¬ (p1 < (0 : Int32))) (hp2 : ¬ ((1073741823 : Int32) < p1)) :
    MetFree l (⟨"com/example/carmine/carmine/Walk", "<init>", "(IZ)V"⟩ : MethodName) (head1 (Jvm.Cond.code (⟨"com/example/carmine/carmine/Walk", "<init>", "(IZ)V"⟩ : MethodName) prog_13_method_2_code 3 none :: ws) ({ frames := 3, cells := 1, slots := 62, locals := 40 } : Room)) (fun a U => a = #[(.ref b1), (.int p1), (.int p2)] ∧ Z.Warmed39 U.vm ∧ U.heap = h0) (fun _ _ _ _ _ => True) (fun _ U o U' => ∃ v L, o = .returned v ∧ Q1 Z b1 p1 p2 h0 n0 v U'.heap L ∧ FrameEnd U o U' L ({ frames := 3, cells := 1, slots := 62, locals := 40 } : Room).cells ({ frames := 3, cells := 1, slots := 62, locals := 40 } : Room).slots) := by
  refine MetFree.of_bodySF (plainFor_of_name pn_1) hisR ?_
  intro p e s m args below meth c s₁ Bd hml0 hP hK
  obtain ⟨rfl, hZ, hh⟩ := hP
  have hx := Bd.exec
  have hby := Bd.bytes
  have hml : c.maxLocals = 3 := hml0
  have hown : s.vm.findClass "com/example/carmine/carmine/Walk" = some m.cls := findClass_of_methodNamed Bd.named
  have hnm := (name_of_methodNamed Bd.named Bd.method).1
  have X0 : Stand p l e ({ frames := 3, cells := 1, slots := 62, locals := 40 } : Room) s m #[(.ref b1), (.int p1), (.int p2)] below meth c s₁ [] 0 0 := Stand.of_body Bd
  have e0 : s₁.heap = h0 := by rw [← hh, Bd.state]; rfl
  have N0 := Fr.nil n0
  refine goB (ef_1 m b1 p1 p2) ?_
  show Go p.tables e below s₁ (mkF m 0 #[.val (.ref b1), .val (.int p1), .val (.int p2)] []) _
  refine go1 (fun _ => XS.aloadN X0.here hx rfl (hb hby d1_0) rfl rfl) ?_
  show Go p.tables e below s₁ (mkF m 1 #[.val (.ref b1), .val (.int p1), .val (.int p2)] [(.ref b1)]) _
  obtain ⟨T1, X1, e1, st1⟩ := initO X0 hx hZ hown (hw _ (List.mem_of_getElem? (i := 7) rfl)) (hw _ (List.mem_of_getElem? (i := 8) rfl)) (hw _ (List.mem_of_getElem? (i := 9) rfl)) e0 (g := (mkF m 1 #[.val (.ref b1), .val (.int p1), .val (.int p2)] [(.ref b1)])) rfl (by rw [hml]; rfl) rfl (hb hby d1_1) (by decide) (W := 0) (by show 2 * 0 + _ ≤ _; exact Nat.le_of_eq rfl) (by decide)
  refine go1 st1 ?_
  show Go p.tables e below T1 (mkF m 4 #[.val (.ref b1), .val (.int p1), .val (.int p2)] []) _
  refine go1 (fun _ => XS.aloadN X1.here hx rfl (hb hby d1_4) rfl rfl) ?_
  show Go p.tables e below T1 (mkF m 5 #[.val (.ref b1), .val (.int p1), .val (.int p2)] [(.ref b1)]) _
  refine go1 (fun _ => XS.iconst X1.here hx rfl (hb hby d1_5)) ?_
  show Go p.tables e below T1 (mkF m 6 #[.val (.ref b1), .val (.int p1), .val (.int p2)] [(.int (1 : Int32)), (.ref b1)]) _
  obtain ⟨T2, h2, X2, e2, W2, st2⟩ := putF X1 hx hZ hown (host := "") (Or.inl (hw _ (List.mem_of_getElem? (i := 10) rfl))) Via.refl e1 F_coldSpan_b1 E_b1 (Or.inl (hw _ (List.mem_of_getElem? (i := 11) rfl))) (hw _ (List.mem_of_getElem? (i := 2) rfl)) (ty := .int) (by decide) rfl rfl (g := (mkF m 6 #[.val (.ref b1), .val (.int p1), .val (.int p2)] [(.int (1 : Int32)), (.ref b1)])) rfl rfl (hb hby d1_6)
  refine go1 st2 ?_
  have Fw2 := F_coldSpan_b1.same W2
  have N2 := Fr.snoc X2 N0 g_b1
  show Go p.tables e below T2 (mkF m 9 #[.val (.ref b1), .val (.int p1), .val (.int p2)] []) _
  refine go1 (fun _ => XS.aloadN X2.here hx rfl (hb hby d1_9) rfl rfl) ?_
  show Go p.tables e below T2 (mkF m 10 #[.val (.ref b1), .val (.int p1), .val (.int p2)] [(.ref b1)]) _
  refine go1 (fun _ => XS.iloadN X2.here hx rfl (hb hby d1_10) rfl) ?_
  show Go p.tables e below T2 (mkF m 11 #[.val (.ref b1), .val (.int p1), .val (.int p2)] [(.int p1), (.ref b1)]) _
  obtain ⟨_, _, ⟨T3, L3, k3, n3⟩, -, X3, ⟨Lc3, hQ3, l3, y3, z3⟩, st3⟩ := Jvm.LawKit.callS X2 hx (y := (⟨"com/example/carmine/carmine/Walk", "newNodes", "(I)[Lcom/example/carmine/carmine/Node;"⟩ : MethodName)) hown (mvT hZ (hw _ (List.mem_of_getElem? (i := 12) rfl))) (mvT hZ (hw _ (List.mem_of_getElem? (i := 13) rfl))) (mvT hZ (hw _ (List.mem_of_getElem? (i := 3) rfl))) (mvT hZ (hw _ (List.mem_of_getElem? (i := 14) rfl))) (by decide) (backOf (W := 1) (rm3 l Z a0 hw [] p1 h2 n0 (Nat.le_trans Z0 (Keep.of_wr W2).1) hp1 hp2) hZ (hw _ (List.mem_of_getElem? (i := 14) rfl)) (hw _ (List.mem_of_getElem? (i := 3) rfl)) (by decide) (by decide)) (g := (mkF m 11 #[.val (.ref b1), .val (.int p1), .val (.int p2)] [(.int p1), (.ref b1)])) rfl (by rw [hml]; rfl) (argsL := [(.int p1)]) (rest := [(.ref b1)]) (lenOf pd1_0 rfl) rfl (by show 2 * 0 + _ ≤ _; exact Nat.le_of_eq rfl) (hb hby d1_11) (fun _ _ => ⟨rfl, e2, (by decide : 0 + 1 ≤ _), (by decide : 0 + 62 ≤ _)⟩)
  dsimp only [Pt.U, Pt.locs, Pt.cells, Pt.slots] at X3 l3 y3 z3 st3 hQ3
  subst l3 y3 z3
  obtain ⟨b4, k5, y6, rfl, N3q, K3, G3_0, G3_1, G3_2, G3_3, G3_4, G3_5, G3_6⟩ := hQ3
  have N3 := Fr.app N2 N3q
  refine go1 st3 ?_
  show Go p.tables e below T3 (mkF m 14 #[.val (.ref b1), .val (.int p1), .val (.int p2)] [(.ref b4), (.ref b1)]) _
  obtain ⟨T7, h7, X7, e7, W7, st7⟩ := putF X3 hx hZ hown (host := "") (Or.inl (hw _ (List.mem_of_getElem? (i := 25) rfl))) Via.refl rfl ((F_nodes_b1.other W2 (Or.inr (slot_ne (Or.inr (hw _ (List.mem_of_getElem? (i := 26) rfl))) (Or.inl (hw _ (List.mem_of_getElem? (i := 11) rfl))) (by decide) (t := (.array (.object "com/example/carmine/carmine/Node"))) (t' := .int) (by decide) (by decide)))).keep K3 nin0) ((E_b1.wr W2).keep K3) (Or.inr ⟨(hw _ (List.mem_of_getElem? (i := 26) rfl)), rfl, hnm⟩) (hw _ (List.mem_of_getElem? (i := 2) rfl)) (ty := (.array (.object "com/example/carmine/carmine/Node"))) (by decide) rfl rfl (g := (mkF m 14 #[.val (.ref b1), .val (.int p1), .val (.int p2)] [(.ref b4), (.ref b1)])) rfl rfl (hb hby d1_14)
  refine go1 st7 ?_
  have Fw7 := ((F_nodes_b1.other W2 (Or.inr (slot_ne (Or.inr (hw _ (List.mem_of_getElem? (i := 26) rfl))) (Or.inl (hw _ (List.mem_of_getElem? (i := 11) rfl))) (by decide) (t := (.array (.object "com/example/carmine/carmine/Node"))) (t' := .int) (by decide) (by decide)))).keep K3 nin0).same W7
  have N7 := Fr.snoc X7 N3 g_b1
  show Go p.tables e below T7 (mkF m 17 #[.val (.ref b1), .val (.int p1), .val (.int p2)] []) _
  refine go1 (fun _ => XS.aloadN X7.here hx rfl (hb hby d1_17) rfl rfl) ?_
  show Go p.tables e below T7 (mkF m 18 #[.val (.ref b1), .val (.int p1), .val (.int p2)] [(.ref b1)]) _
  refine go1 (fun _ => XS.iloadN X7.here hx rfl (hb hby d1_18) rfl) ?_
  show Go p.tables e below T7 (mkF m 19 #[.val (.ref b1), .val (.int p1), .val (.int p2)] [(.int p2), (.ref b1)]) _
  obtain ⟨T8, h8, X8, e8, W8, st8⟩ := putFN X7 hx hZ hown (hw _ (List.mem_of_getElem? (i := 27) rfl)) Via.refl e7 (((F_copying_b1.other W2 (Or.inr (slot_ne (Or.inr (hw _ (List.mem_of_getElem? (i := 28) rfl))) (Or.inl (hw _ (List.mem_of_getElem? (i := 11) rfl))) (by decide) (t := .boolean) (t' := .int) (by decide) (by decide)))).keep K3 nin0).other W7 (Or.inr (slot_ne (Or.inr (hw _ (List.mem_of_getElem? (i := 28) rfl))) (Or.inr (hw _ (List.mem_of_getElem? (i := 26) rfl))) (by decide) (t := .boolean) (t' := (.array (.object "com/example/carmine/carmine/Node"))) (by decide) (by decide)))) (((E_b1.wr W2).keep K3).wr W7) (Or.inr ⟨(hw _ (List.mem_of_getElem? (i := 28) rfl)), rfl, hnm⟩) (hw _ (List.mem_of_getElem? (i := 2) rfl)) (ty := .boolean) (v' := (.int (nar .boolean p2))) (by decide) rfl (fits_nar_bool _) (g := (mkF m 19 #[.val (.ref b1), .val (.int p1), .val (.int p2)] [(.int p2), (.ref b1)])) rfl rfl (hb hby d1_19)
  refine go1 st8 ?_
  have Fw8 := (((F_copying_b1.other W2 (Or.inr (slot_ne (Or.inr (hw _ (List.mem_of_getElem? (i := 28) rfl))) (Or.inl (hw _ (List.mem_of_getElem? (i := 11) rfl))) (by decide) (t := .boolean) (t' := .int) (by decide) (by decide)))).keep K3 nin0).other W7 (Or.inr (slot_ne (Or.inr (hw _ (List.mem_of_getElem? (i := 28) rfl))) (Or.inr (hw _ (List.mem_of_getElem? (i := 26) rfl))) (by decide) (t := .boolean) (t' := (.array (.object "com/example/carmine/carmine/Node"))) (by decide) (by decide)))).same W8
  have N8 := Fr.snoc X8 N7 g_b1
  show Go p.tables e below T8 (mkF m 22 #[.val (.ref b1), .val (.int p1), .val (.int p2)] []) _
  refine goR X8 (BodyLoose.notSynchronized Bd) (v := none) (fun _ => rfl) (Q1 Z b1 p1 p2 h0 n0) (fun fs hr => X8.returnOut hx Bd.returns (hb hby d1_22) hr) (by decide) (by decide) ?_
  show Q1 Z b1 p1 p2 h0 n0 _ T8.heap _
  rw [e8]
  exact ⟨b4, k5, y6, rfl, N8, (((((Keep.refl h0 [b1]).wr W2 (Or.inl (List.mem_of_getElem? (i := 0) rfl))).trans K3 all0).wr W7 (Or.inl (List.mem_of_getElem? (i := 0) rfl))).wr W8 (Or.inl (List.mem_of_getElem? (i := 0) rfl))), ((((E_b1.wr W2).keep K3).wr W7).wr W8), (Fw7.other W8 (Or.inr (slot_ne (Or.inr (hw _ (List.mem_of_getElem? (i := 26) rfl))) (Or.inr (hw _ (List.mem_of_getElem? (i := 28) rfl))) (by decide) (t := (.array (.object "com/example/carmine/carmine/Node"))) (t' := .boolean) (by decide) (by decide)))), G3_0, (Nat.le_trans (Nat.le_trans (Nat.le_refl h0.size) (Keep.of_wr W2).1) G3_1), ((G3_2.other W7 (Ne.symm (Nat.ne_of_lt (Nat.lt_of_lt_of_le Fw2.lt G3_1)))).other W8 (Ne.symm (Nat.ne_of_lt (Nat.lt_of_lt_of_le Fw2.lt G3_1)))), Fw8, (((Fw2.keep K3 nin0).other W7 (Or.inr (slot_ne (Or.inl (hw _ (List.mem_of_getElem? (i := 11) rfl))) (Or.inr (hw _ (List.mem_of_getElem? (i := 26) rfl))) (by decide) (t := .int) (t' := (.array (.object "com/example/carmine/carmine/Node"))) (by decide) (by decide)))).other W8 (Or.inr (slot_ne (Or.inl (hw _ (List.mem_of_getElem? (i := 11) rfl))) (Or.inr (hw _ (List.mem_of_getElem? (i := 28) rfl))) (by decide) (t := .int) (t' := .boolean) (by decide) (by decide)))), ((((F_turns_b1.other W2 (Or.inr (slot_ne (Or.inl (hw _ (List.mem_of_getElem? (i := 32) rfl))) (Or.inl (hw _ (List.mem_of_getElem? (i := 11) rfl))) (by decide) (t := .long) (t' := .int) (by decide) (by decide)))).keep K3 nin0).other W7 (Or.inr (slot_ne (Or.inl (hw _ (List.mem_of_getElem? (i := 32) rfl))) (Or.inr (hw _ (List.mem_of_getElem? (i := 26) rfl))) (by decide) (t := .long) (t' := (.array (.object "com/example/carmine/carmine/Node"))) (by decide) (by decide)))).other W8 (Or.inr (slot_ne (Or.inl (hw _ (List.mem_of_getElem? (i := 32) rfl))) (Or.inr (hw _ (List.mem_of_getElem? (i := 28) rfl))) (by decide) (t := .long) (t' := .boolean) (by decide) (by decide)))), ((((F_depth_b1.other W2 (Or.inr (slot_ne (Or.inl (hw _ (List.mem_of_getElem? (i := 34) rfl))) (Or.inl (hw _ (List.mem_of_getElem? (i := 11) rfl))) (by decide) (t := .int) (t' := .int) (by decide) (by decide)))).keep K3 nin0).other W7 (Or.inr (slot_ne (Or.inl (hw _ (List.mem_of_getElem? (i := 34) rfl))) (Or.inr (hw _ (List.mem_of_getElem? (i := 26) rfl))) (by decide) (t := .int) (t' := (.array (.object "com/example/carmine/carmine/Node"))) (by decide) (by decide)))).other W8 (Or.inr (slot_ne (Or.inl (hw _ (List.mem_of_getElem? (i := 34) rfl))) (Or.inr (hw _ (List.mem_of_getElem? (i := 28) rfl))) (by decide) (t := .int) (t' := .boolean) (by decide) (by decide)))), ((((F_left_b1.other W2 (Or.inr (slot_ne (Or.inl (hw _ (List.mem_of_getElem? (i := 36) rfl))) (Or.inl (hw _ (List.mem_of_getElem? (i := 11) rfl))) (by decide) (t := .boolean) (t' := .int) (by decide) (by decide)))).keep K3 nin0).other W7 (Or.inr (slot_ne (Or.inl (hw _ (List.mem_of_getElem? (i := 36) rfl))) (Or.inr (hw _ (List.mem_of_getElem? (i := 26) rfl))) (by decide) (t := .boolean) (t' := (.array (.object "com/example/carmine/carmine/Node"))) (by decide) (by decide)))).other W8 (Or.inr (slot_ne (Or.inl (hw _ (List.mem_of_getElem? (i := 36) rfl))) (Or.inr (hw _ (List.mem_of_getElem? (i := 28) rfl))) (by decide) (t := .boolean) (t' := .boolean) (by decide) (by decide)))), ((((F_valid_b1.other W2 (Or.inr (slot_ne (Or.inl (hw _ (List.mem_of_getElem? (i := 38) rfl))) (Or.inl (hw _ (List.mem_of_getElem? (i := 11) rfl))) (by decide) (t := .int) (t' := .int) (by decide) (by decide)))).keep K3 nin0).other W7 (Or.inr (slot_ne (Or.inl (hw _ (List.mem_of_getElem? (i := 38) rfl))) (Or.inr (hw _ (List.mem_of_getElem? (i := 26) rfl))) (by decide) (t := .int) (t' := (.array (.object "com/example/carmine/carmine/Node"))) (by decide) (by decide)))).other W8 (Or.inr (slot_ne (Or.inl (hw _ (List.mem_of_getElem? (i := 38) rfl))) (Or.inr (hw _ (List.mem_of_getElem? (i := 28) rfl))) (by decide) (t := .int) (t' := .boolean) (by decide) (by decide)))), ((((F_counted_b1.other W2 (Or.inr (slot_ne (Or.inl (hw _ (List.mem_of_getElem? (i := 40) rfl))) (Or.inl (hw _ (List.mem_of_getElem? (i := 11) rfl))) (by decide) (t := .int) (t' := .int) (by decide) (by decide)))).keep K3 nin0).other W7 (Or.inr (slot_ne (Or.inl (hw _ (List.mem_of_getElem? (i := 40) rfl))) (Or.inr (hw _ (List.mem_of_getElem? (i := 26) rfl))) (by decide) (t := .int) (t' := (.array (.object "com/example/carmine/carmine/Node"))) (by decide) (by decide)))).other W8 (Or.inr (slot_ne (Or.inl (hw _ (List.mem_of_getElem? (i := 40) rfl))) (Or.inr (hw _ (List.mem_of_getElem? (i := 28) rfl))) (by decide) (t := .int) (t' := .boolean) (by decide) (by decide)))), ((((F_rotations_b1.other W2 (Or.inr (slot_ne (Or.inl (hw _ (List.mem_of_getElem? (i := 42) rfl))) (Or.inl (hw _ (List.mem_of_getElem? (i := 11) rfl))) (by decide) (t := .int) (t' := .int) (by decide) (by decide)))).keep K3 nin0).other W7 (Or.inr (slot_ne (Or.inl (hw _ (List.mem_of_getElem? (i := 42) rfl))) (Or.inr (hw _ (List.mem_of_getElem? (i := 26) rfl))) (by decide) (t := .int) (t' := (.array (.object "com/example/carmine/carmine/Node"))) (by decide) (by decide)))).other W8 (Or.inr (slot_ne (Or.inl (hw _ (List.mem_of_getElem? (i := 42) rfl))) (Or.inr (hw _ (List.mem_of_getElem? (i := 28) rfl))) (by decide) (t := .int) (t' := .boolean) (by decide) (by decide)))), ((((F_coldDescents_b1.other W2 (Or.inr (slot_ne (Or.inl (hw _ (List.mem_of_getElem? (i := 44) rfl))) (Or.inl (hw _ (List.mem_of_getElem? (i := 11) rfl))) (by decide) (t := .int) (t' := .int) (by decide) (by decide)))).keep K3 nin0).other W7 (Or.inr (slot_ne (Or.inl (hw _ (List.mem_of_getElem? (i := 44) rfl))) (Or.inr (hw _ (List.mem_of_getElem? (i := 26) rfl))) (by decide) (t := .int) (t' := (.array (.object "com/example/carmine/carmine/Node"))) (by decide) (by decide)))).other W8 (Or.inr (slot_ne (Or.inl (hw _ (List.mem_of_getElem? (i := 44) rfl))) (Or.inr (hw _ (List.mem_of_getElem? (i := 28) rfl))) (by decide) (t := .int) (t' := .boolean) (by decide) (by decide)))), (by first | assumption | decide | rfl), (by first | assumption | decide | rfl), (by first | assumption | decide | rfl), (by first | assumption | decide | rfl)⟩
def own_left (t1 : Int64) (p1 : Int32) : Int32 := if (0 : Int32) < p1 then (if ((t1 &&& (((1 : Int64) <<< (p1 &&& 0x3f).toInt64) - (1 : Int64))) &&& ((1 : Int64) <<< ((p1 - (1 : Int32)) &&& 0x3f).toInt64)) = (0 : Int64) then (0 : Int32) else (1 : Int32)) else (0 : Int32)
theorem d6_0 : decode prog_13_method_16_code 0 = .ok (.aload_n 0, 1) := by decide +kernel
theorem d6_1 : decode prog_13_method_16_code 1 = .ok (.iload_n 1, 1) := by decide +kernel
theorem d6_2 : decode prog_13_method_16_code 2 = .ok (.putfield 115, 3) := by decide +kernel
theorem d6_5 : decode prog_13_method_16_code 5 = .ok (.aload_n 0, 1) := by decide +kernel
theorem d6_6 : decode prog_13_method_16_code 6 = .ok (.dup, 1) := by decide +kernel
theorem d6_7 : decode prog_13_method_16_code 7 = .ok (.getfield 65, 3) := by decide +kernel
theorem d6_10 : decode prog_13_method_16_code 10 = .ok (.lconst 1, 1) := by decide +kernel
theorem d6_11 : decode prog_13_method_16_code 11 = .ok (.iload_n 1, 1) := by decide +kernel
theorem d6_12 : decode prog_13_method_16_code 12 = .ok (.lshl, 1) := by decide +kernel
theorem d6_13 : decode prog_13_method_16_code 13 = .ok (.lconst 1, 1) := by decide +kernel
theorem d6_14 : decode prog_13_method_16_code 14 = .ok (.lsub, 1) := by decide +kernel
theorem d6_15 : decode prog_13_method_16_code 15 = .ok (.land, 1) := by decide +kernel
theorem d6_16 : decode prog_13_method_16_code 16 = .ok (.putfield 65, 3) := by decide +kernel
theorem d6_19 : decode prog_13_method_16_code 19 = .ok (.aload_n 0, 1) := by decide +kernel
theorem d6_20 : decode prog_13_method_16_code 20 = .ok (.iload_n 1, 1) := by decide +kernel
theorem d6_21 : decode prog_13_method_16_code 21 = .ok (.ifCond .le 22, 3) := by decide +kernel
theorem d6_24 : decode prog_13_method_16_code 24 = .ok (.aload_n 0, 1) := by decide +kernel
theorem d6_25 : decode prog_13_method_16_code 25 = .ok (.getfield 65, 3) := by decide +kernel
theorem d6_28 : decode prog_13_method_16_code 28 = .ok (.lconst 1, 1) := by decide +kernel
theorem d6_29 : decode prog_13_method_16_code 29 = .ok (.iload_n 1, 1) := by decide +kernel
theorem d6_30 : decode prog_13_method_16_code 30 = .ok (.iconst 1, 1) := by decide +kernel
theorem d6_31 : decode prog_13_method_16_code 31 = .ok (.isub, 1) := by decide +kernel
theorem d6_32 : decode prog_13_method_16_code 32 = .ok (.lshl, 1) := by decide +kernel
theorem d6_33 : decode prog_13_method_16_code 33 = .ok (.land, 1) := by decide +kernel
theorem d6_34 : decode prog_13_method_16_code 34 = .ok (.lconst 0, 1) := by decide +kernel
theorem d6_35 : decode prog_13_method_16_code 35 = .ok (.lcmp, 1) := by decide +kernel
theorem d6_36 : decode prog_13_method_16_code 36 = .ok (.ifCond .eq 7, 3) := by decide +kernel
theorem d6_39 : decode prog_13_method_16_code 39 = .ok (.iconst 1, 1) := by decide +kernel
theorem d6_40 : decode prog_13_method_16_code 40 = .ok (.goto 4, 3) := by decide +kernel
theorem d6_43 : decode prog_13_method_16_code 43 = .ok (.iconst 0, 1) := by decide +kernel
theorem d6_44 : decode prog_13_method_16_code 44 = .ok (.putfield 118, 3) := by decide +kernel
theorem d6_47 : decode prog_13_method_16_code 47 = .ok (.aload_n 0, 1) := by decide +kernel
theorem d6_48 : decode prog_13_method_16_code 48 = .ok (.iload_n 1, 1) := by decide +kernel
theorem d6_49 : decode prog_13_method_16_code 49 = .ok (.iconst 1, 1) := by decide +kernel
theorem d6_50 : decode prog_13_method_16_code 50 = .ok (.iadd, 1) := by decide +kernel
theorem d6_51 : decode prog_13_method_16_code 51 = .ok (.putfield 52, 3) := by decide +kernel
theorem d6_54 : decode prog_13_method_16_code 54 = .ok (.return_, 1) := by decide +kernel
theorem pn_6 : plainName "com/example/carmine/carmine/Walk" = true := by first | (simp [plainName, overriddenIn]; done) | decide +kernel
theorem ef_6 (m : MethodId) (b1 : Addr) (p1 : Int32) : entryFrame m #[(.ref b1), (.int p1)] 2 = mkF m 0 #[.val (.ref b1), .val (.int p1)] [] := by first | (simp [entryFrame, mkF, argsToLocals, Value.category]; done) | rfl
def Q6 (Z : State) (b1 : Addr) (p1 : Int32) (t1 : Int64) (d1 : Int32) (l1 : Int32) (v1 : Int32) (c1 : Int32) (r1 : Int32) (nb : Addr) (cp1 : Int32) (cd1 : Int32) (cs1 : Int32) (h0 : Heap) (n0 : Nat) (v : Option Value) (h : Heap) (L : List Loc) : Prop := v = none ∧ Fr n0 L ∧ Keep h0 h [b1] ∧ Exa Z h b1 "com/example/carmine/carmine/Walk" ∧ Fld Z h b1 "com/example/carmine/carmine/Walk" "depth" "I" (.int p1) ∧ Fld Z h b1 "com/example/carmine/carmine/Walk" "turns" "J" (.long (t1 &&& (((1 : Int64) <<< (p1 &&& 0x3f).toInt64) - (1 : Int64)))) ∧ Fld Z h b1 "com/example/carmine/carmine/Walk" "left" "Z" (.int (own_left t1 p1)) ∧ Fld Z h b1 "com/example/carmine/carmine/Walk" "valid" "I" (.int (p1 + (1 : Int32))) ∧ Fld Z h b1 "com/example/carmine/carmine/Walk" "counted" "I" (.int c1) ∧ Fld Z h b1 "com/example/carmine/carmine/Walk" "rotations" "I" (.int r1) ∧ Fld Z h b1 "com/example/carmine/carmine/Walk" "nodes" "[Lcom/example/carmine/carmine/Node;" (.ref nb) ∧ Fld Z h b1 "com/example/carmine/carmine/Walk" "copying" "Z" (.int cp1) ∧ Fld Z h b1 "com/example/carmine/carmine/Walk" "coldDescents" "I" (.int cd1) ∧ Fld Z h b1 "com/example/carmine/carmine/Walk" "coldSpan" "I" (.int cs1)
set_option maxRecDepth 65536 in
set_option maxHeartbeats 40000000 in
theorem rm6 (l : Launch) (Z : State) (a0 : Array Value) (hw : ∀ d ∈ tables_1, d.before a0 Z = true) (ws : List Jvm.Cond) (b1 : Addr) (p1 : Int32) (t1 : Int64) (d1 : Int32) (l1 : Int32) (v1 : Int32) (c1 : Int32) (r1 : Int32) (nb : Addr) (cp1 : Int32) (cd1 : Int32) (cs1 : Int32) (h0 : Heap) (n0 : Nat) (Z0 : n0 ≤ h0.size) (F_turns_b1 : Fld Z h0 b1 "com/example/carmine/carmine/Walk" "turns" "J" (.long t1)) (F_depth_b1 : Fld Z h0 b1 "com/example/carmine/carmine/Walk" "depth" "I" (.int d1)) (F_left_b1 : Fld Z h0 b1 "com/example/carmine/carmine/Walk" "left" "Z" (.int l1)) (F_valid_b1 : Fld Z h0 b1 "com/example/carmine/carmine/Walk" "valid" "I" (.int v1)) (F_counted_b1 : Fld Z h0 b1 "com/example/carmine/carmine/Walk" "counted" "I" (.int c1)) (F_rotations_b1 : Fld Z h0 b1 "com/example/carmine/carmine/Walk" "rotations" "I" (.int r1)) (F_nodes_b1 : Fld Z h0 b1 "com/example/carmine/carmine/Walk" "nodes" "[Lcom/example/carmine/carmine/Node;" (.ref nb)) (F_copying_b1 : Fld Z h0 b1 "com/example/carmine/carmine/Walk" "copying" "Z" (.int cp1)) (F_coldDescents_b1 : Fld Z h0 b1 "com/example/carmine/carmine/Walk" "coldDescents" "I" (.int cd1)) (F_coldSpan_b1 : Fld Z h0 b1 "com/example/carmine/carmine/Walk" "coldSpan" "I" (.int cs1)) (E_b1 : Exa Z h0 b1 "com/example/carmine/carmine/Walk") (g_b1 : n0 ≤ b1) :
    MetFree l (⟨"com/example/carmine/carmine/Walk", "endAt", "(I)V"⟩ : MethodName) (head1 (Jvm.Cond.code (⟨"com/example/carmine/carmine/Walk", "endAt", "(I)V"⟩ : MethodName) prog_13_method_16_code 2 none :: ws) ({ frames := 0, cells := 0, slots := 0, locals := 0 } : Room)) (fun a U => a = #[(.ref b1), (.int p1)] ∧ Z.Warmed39 U.vm ∧ U.heap = h0) (fun _ _ _ _ _ => True) (fun _ U o U' => ∃ v L, o = .returned v ∧ Q6 Z b1 p1 t1 d1 l1 v1 c1 r1 nb cp1 cd1 cs1 h0 n0 v U'.heap L ∧ FrameEnd U o U' L ({ frames := 0, cells := 0, slots := 0, locals := 0 } : Room).cells ({ frames := 0, cells := 0, slots := 0, locals := 0 } : Room).slots) := by
  refine MetFree.of_bodySF (plainFor_of_name pn_6) hisR ?_
  intro p e s m args below meth c s₁ Bd hml0 hP hK
  obtain ⟨rfl, hZ, hh⟩ := hP
  have hx := Bd.exec
  have hby := Bd.bytes
  have hml : c.maxLocals = 2 := hml0
  have hown : s.vm.findClass "com/example/carmine/carmine/Walk" = some m.cls := findClass_of_methodNamed Bd.named
  have hnm := (name_of_methodNamed Bd.named Bd.method).1
  have X0 : Stand p l e ({ frames := 0, cells := 0, slots := 0, locals := 0 } : Room) s m #[(.ref b1), (.int p1)] below meth c s₁ [] 0 0 := Stand.of_body Bd
  have e0 : s₁.heap = h0 := by rw [← hh, Bd.state]; rfl
  have N0 := Fr.nil n0
  refine goB (ef_6 m b1 p1) ?_
  show Go p.tables e below s₁ (mkF m 0 #[.val (.ref b1), .val (.int p1)] []) _
  refine go1 (fun _ => XS.aloadN X0.here hx rfl (hb hby d6_0) rfl rfl) ?_
  show Go p.tables e below s₁ (mkF m 1 #[.val (.ref b1), .val (.int p1)] [(.ref b1)]) _
  refine go1 (fun _ => XS.iloadN X0.here hx rfl (hb hby d6_1) rfl) ?_
  show Go p.tables e below s₁ (mkF m 2 #[.val (.ref b1), .val (.int p1)] [(.int p1), (.ref b1)]) _
  obtain ⟨T1, h1, X1, e1, W1, st1⟩ := putF X0 hx hZ hown (host := "") (Or.inl (hw _ (List.mem_of_getElem? (i := 51) rfl))) Via.refl e0 F_depth_b1 E_b1 (Or.inl (hw _ (List.mem_of_getElem? (i := 34) rfl))) (hw _ (List.mem_of_getElem? (i := 2) rfl)) (ty := .int) (by decide) rfl rfl (g := (mkF m 2 #[.val (.ref b1), .val (.int p1)] [(.int p1), (.ref b1)])) rfl rfl (hb hby d6_2)
  refine go1 st1 ?_
  have Fw1 := F_depth_b1.same W1
  have N1 := Fr.snoc X1 N0 g_b1
  show Go p.tables e below T1 (mkF m 5 #[.val (.ref b1), .val (.int p1)] []) _
  refine go1 (fun _ => XS.aloadN X1.here hx rfl (hb hby d6_5) rfl rfl) ?_
  show Go p.tables e below T1 (mkF m 6 #[.val (.ref b1), .val (.int p1)] [(.ref b1)]) _
  refine go1 (fun _ => XS.dup X1.here hx rfl (hb hby d6_6) rfl rfl) ?_
  show Go p.tables e below T1 (mkF m 7 #[.val (.ref b1), .val (.int p1)] [(.ref b1), (.ref b1)]) _
  obtain ⟨T2, X2, e2, st2⟩ := getF X1 hx hZ hown (host := "") (Or.inl (hw _ (List.mem_of_getElem? (i := 52) rfl))) Via.refl e1 (F_turns_b1.other W1 (Or.inr (slot_ne (Or.inl (hw _ (List.mem_of_getElem? (i := 32) rfl))) (Or.inl (hw _ (List.mem_of_getElem? (i := 34) rfl))) (by decide) (t := .long) (t' := .int) (by decide) (by decide)))) (g := (mkF m 7 #[.val (.ref b1), .val (.int p1)] [(.ref b1), (.ref b1)])) rfl rfl (hb hby d6_7)
  refine go1 st2 ?_
  show Go p.tables e below T2 (mkF m 10 #[.val (.ref b1), .val (.int p1)] [(.long t1), (.ref b1)]) _
  refine go1 (fun _ => XS.lconst X2.here hx rfl (hb hby d6_10)) ?_
  show Go p.tables e below T2 (mkF m 11 #[.val (.ref b1), .val (.int p1)] [(.long (1 : Int64)), (.long t1), (.ref b1)]) _
  refine go1 (fun _ => XS.iloadN X2.here hx rfl (hb hby d6_11) rfl) ?_
  show Go p.tables e below T2 (mkF m 12 #[.val (.ref b1), .val (.int p1)] [(.int p1), (.long (1 : Int64)), (.long t1), (.ref b1)]) _
  refine go1 (fun _ => XS.lshl X2.here hx rfl (hb hby d6_12) rfl) ?_
  show Go p.tables e below T2 (mkF m 13 #[.val (.ref b1), .val (.int p1)] [(.long ((1 : Int64) <<< (p1 &&& 0x3f).toInt64)), (.long t1), (.ref b1)]) _
  refine go1 (fun _ => XS.lconst X2.here hx rfl (hb hby d6_13)) ?_
  show Go p.tables e below T2 (mkF m 14 #[.val (.ref b1), .val (.int p1)] [(.long (1 : Int64)), (.long ((1 : Int64) <<< (p1 &&& 0x3f).toInt64)), (.long t1), (.ref b1)]) _
  refine go1 (fun _ => XS.lsub X2.here hx rfl (hb hby d6_14) rfl) ?_
  show Go p.tables e below T2 (mkF m 15 #[.val (.ref b1), .val (.int p1)] [(.long (((1 : Int64) <<< (p1 &&& 0x3f).toInt64) - (1 : Int64))), (.long t1), (.ref b1)]) _
  refine go1 (fun _ => XS.land X2.here hx rfl (hb hby d6_15) rfl) ?_
  show Go p.tables e below T2 (mkF m 16 #[.val (.ref b1), .val (.int p1)] [(.long (t1 &&& (((1 : Int64) <<< (p1 &&& 0x3f).toInt64) - (1 : Int64)))), (.ref b1)]) _
  obtain ⟨T3, h3, X3, e3, W3, st3⟩ := putF X2 hx hZ hown (host := "") (Or.inl (hw _ (List.mem_of_getElem? (i := 52) rfl))) Via.refl e2 (F_turns_b1.other W1 (Or.inr (slot_ne (Or.inl (hw _ (List.mem_of_getElem? (i := 32) rfl))) (Or.inl (hw _ (List.mem_of_getElem? (i := 34) rfl))) (by decide) (t := .long) (t' := .int) (by decide) (by decide)))) (E_b1.wr W1) (Or.inl (hw _ (List.mem_of_getElem? (i := 32) rfl))) (hw _ (List.mem_of_getElem? (i := 2) rfl)) (ty := .long) (by decide) rfl rfl (g := (mkF m 16 #[.val (.ref b1), .val (.int p1)] [(.long (t1 &&& (((1 : Int64) <<< (p1 &&& 0x3f).toInt64) - (1 : Int64)))), (.ref b1)])) rfl rfl (hb hby d6_16)
  refine go1 st3 ?_
  have Fw3 := (F_turns_b1.other W1 (Or.inr (slot_ne (Or.inl (hw _ (List.mem_of_getElem? (i := 32) rfl))) (Or.inl (hw _ (List.mem_of_getElem? (i := 34) rfl))) (by decide) (t := .long) (t' := .int) (by decide) (by decide)))).same W3
  have N3 := Fr.snoc X3 N1 g_b1
  show Go p.tables e below T3 (mkF m 19 #[.val (.ref b1), .val (.int p1)] []) _
  refine go1 (fun _ => XS.aloadN X3.here hx rfl (hb hby d6_19) rfl rfl) ?_
  show Go p.tables e below T3 (mkF m 20 #[.val (.ref b1), .val (.int p1)] [(.ref b1)]) _
  refine go1 (fun _ => XS.iloadN X3.here hx rfl (hb hby d6_20) rfl) ?_
  show Go p.tables e below T3 (mkF m 21 #[.val (.ref b1), .val (.int p1)] [(.int p1), (.ref b1)]) _
  by_cases hc4 : (0 : Int32) < p1
  · skip
    refine go1 (fun _ => XS.ifNo X3.here hx rfl (hb hby d6_21) rfl ((if0 _ _).trans (tlt hc4).2.2.2)) ?_
    show Go p.tables e below T3 (mkF m 24 #[.val (.ref b1), .val (.int p1)] [(.ref b1)]) _
    refine go1 (fun _ => XS.aloadN X3.here hx rfl (hb hby d6_24) rfl rfl) ?_
    show Go p.tables e below T3 (mkF m 25 #[.val (.ref b1), .val (.int p1)] [(.ref b1), (.ref b1)]) _
    obtain ⟨T5, X5, e5, st5⟩ := getF X3 hx hZ hown (host := "") (Or.inl (hw _ (List.mem_of_getElem? (i := 52) rfl))) Via.refl e3 Fw3 (g := (mkF m 25 #[.val (.ref b1), .val (.int p1)] [(.ref b1), (.ref b1)])) rfl rfl (hb hby d6_25)
    refine go1 st5 ?_
    show Go p.tables e below T5 (mkF m 28 #[.val (.ref b1), .val (.int p1)] [(.long (t1 &&& (((1 : Int64) <<< (p1 &&& 0x3f).toInt64) - (1 : Int64)))), (.ref b1)]) _
    refine go1 (fun _ => XS.lconst X5.here hx rfl (hb hby d6_28)) ?_
    show Go p.tables e below T5 (mkF m 29 #[.val (.ref b1), .val (.int p1)] [(.long (1 : Int64)), (.long (t1 &&& (((1 : Int64) <<< (p1 &&& 0x3f).toInt64) - (1 : Int64)))), (.ref b1)]) _
    refine go1 (fun _ => XS.iloadN X5.here hx rfl (hb hby d6_29) rfl) ?_
    show Go p.tables e below T5 (mkF m 30 #[.val (.ref b1), .val (.int p1)] [(.int p1), (.long (1 : Int64)), (.long (t1 &&& (((1 : Int64) <<< (p1 &&& 0x3f).toInt64) - (1 : Int64)))), (.ref b1)]) _
    refine go1 (fun _ => XS.iconst X5.here hx rfl (hb hby d6_30)) ?_
    show Go p.tables e below T5 (mkF m 31 #[.val (.ref b1), .val (.int p1)] [(.int (1 : Int32)), (.int p1), (.long (1 : Int64)), (.long (t1 &&& (((1 : Int64) <<< (p1 &&& 0x3f).toInt64) - (1 : Int64)))), (.ref b1)]) _
    refine go1 (fun _ => XS.isub X5.here hx rfl (hb hby d6_31) rfl) ?_
    show Go p.tables e below T5 (mkF m 32 #[.val (.ref b1), .val (.int p1)] [(.int (p1 - (1 : Int32))), (.long (1 : Int64)), (.long (t1 &&& (((1 : Int64) <<< (p1 &&& 0x3f).toInt64) - (1 : Int64)))), (.ref b1)]) _
    refine go1 (fun _ => XS.lshl X5.here hx rfl (hb hby d6_32) rfl) ?_
    show Go p.tables e below T5 (mkF m 33 #[.val (.ref b1), .val (.int p1)] [(.long ((1 : Int64) <<< ((p1 - (1 : Int32)) &&& 0x3f).toInt64)), (.long (t1 &&& (((1 : Int64) <<< (p1 &&& 0x3f).toInt64) - (1 : Int64)))), (.ref b1)]) _
    refine go1 (fun _ => XS.land X5.here hx rfl (hb hby d6_33) rfl) ?_
    show Go p.tables e below T5 (mkF m 34 #[.val (.ref b1), .val (.int p1)] [(.long ((t1 &&& (((1 : Int64) <<< (p1 &&& 0x3f).toInt64) - (1 : Int64))) &&& ((1 : Int64) <<< ((p1 - (1 : Int32)) &&& 0x3f).toInt64))), (.ref b1)]) _
    refine go1 (fun _ => XS.lconst X5.here hx rfl (hb hby d6_34)) ?_
    show Go p.tables e below T5 (mkF m 35 #[.val (.ref b1), .val (.int p1)] [(.long (0 : Int64)), (.long ((t1 &&& (((1 : Int64) <<< (p1 &&& 0x3f).toInt64) - (1 : Int64))) &&& ((1 : Int64) <<< ((p1 - (1 : Int32)) &&& 0x3f).toInt64))), (.ref b1)]) _
    refine go1 (fun _ => XS.lcmp X5.here hx rfl (hb hby d6_35) rfl) ?_
    show Go p.tables e below T5 (mkF m 36 #[.val (.ref b1), .val (.int p1)] [(.int (lcmpW ((t1 &&& (((1 : Int64) <<< (p1 &&& 0x3f).toInt64) - (1 : Int64))) &&& ((1 : Int64) <<< ((p1 - (1 : Int32)) &&& 0x3f).toInt64)) (0 : Int64))), (.ref b1)]) _
    by_cases hc6 : ((t1 &&& (((1 : Int64) <<< (p1 &&& 0x3f).toInt64) - (1 : Int64))) &&& ((1 : Int64) <<< ((p1 - (1 : Int32)) &&& 0x3f).toInt64)) = (0 : Int64)
    · skip
      refine go1 (fun _ => XS.ifYes X5.here hx rfl (pc0 := 36) (pc' := 43) rfl (hb hby d6_36) rfl ((if0 _ _).trans (teq ((lw_eq _ _).mpr hc6)).1) (by decide) (by decide)) ?_
      show Go p.tables e below T5 (mkF m 43 #[.val (.ref b1), .val (.int p1)] [(.ref b1)]) _
      refine go1 (fun _ => XS.iconst X5.here hx rfl (hb hby d6_43)) ?_
      show Go p.tables e below T5 (mkF m 44 #[.val (.ref b1), .val (.int p1)] [(.int (0 : Int32)), (.ref b1)]) _
      obtain ⟨T7, h7, X7, e7, W7, st7⟩ := putFN X5 hx hZ hown (hw _ (List.mem_of_getElem? (i := 53) rfl)) Via.refl e5 ((F_left_b1.other W1 (Or.inr (slot_ne (Or.inl (hw _ (List.mem_of_getElem? (i := 36) rfl))) (Or.inl (hw _ (List.mem_of_getElem? (i := 34) rfl))) (by decide) (t := .boolean) (t' := .int) (by decide) (by decide)))).other W3 (Or.inr (slot_ne (Or.inl (hw _ (List.mem_of_getElem? (i := 36) rfl))) (Or.inl (hw _ (List.mem_of_getElem? (i := 32) rfl))) (by decide) (t := .boolean) (t' := .long) (by decide) (by decide)))) ((E_b1.wr W1).wr W3) (Or.inl (hw _ (List.mem_of_getElem? (i := 36) rfl))) (hw _ (List.mem_of_getElem? (i := 2) rfl)) (ty := .boolean) (v' := (.int (0 : Int32))) (by decide) rfl (by decide) (g := (mkF m 44 #[.val (.ref b1), .val (.int p1)] [(.int (0 : Int32)), (.ref b1)])) rfl rfl (hb hby d6_44)
      refine go1 st7 ?_
      have Fw7 := ((F_left_b1.other W1 (Or.inr (slot_ne (Or.inl (hw _ (List.mem_of_getElem? (i := 36) rfl))) (Or.inl (hw _ (List.mem_of_getElem? (i := 34) rfl))) (by decide) (t := .boolean) (t' := .int) (by decide) (by decide)))).other W3 (Or.inr (slot_ne (Or.inl (hw _ (List.mem_of_getElem? (i := 36) rfl))) (Or.inl (hw _ (List.mem_of_getElem? (i := 32) rfl))) (by decide) (t := .boolean) (t' := .long) (by decide) (by decide)))).same W7
      have N7 := Fr.snoc X7 N3 g_b1
      show Go p.tables e below T7 (mkF m 47 #[.val (.ref b1), .val (.int p1)] []) _
      refine go1 (fun _ => XS.aloadN X7.here hx rfl (hb hby d6_47) rfl rfl) ?_
      show Go p.tables e below T7 (mkF m 48 #[.val (.ref b1), .val (.int p1)] [(.ref b1)]) _
      refine go1 (fun _ => XS.iloadN X7.here hx rfl (hb hby d6_48) rfl) ?_
      show Go p.tables e below T7 (mkF m 49 #[.val (.ref b1), .val (.int p1)] [(.int p1), (.ref b1)]) _
      refine go1 (fun _ => XS.iconst X7.here hx rfl (hb hby d6_49)) ?_
      show Go p.tables e below T7 (mkF m 50 #[.val (.ref b1), .val (.int p1)] [(.int (1 : Int32)), (.int p1), (.ref b1)]) _
      refine go1 (fun _ => XS.iadd X7.here hx rfl (hb hby d6_50) rfl) ?_
      show Go p.tables e below T7 (mkF m 51 #[.val (.ref b1), .val (.int p1)] [(.int (p1 + (1 : Int32))), (.ref b1)]) _
      obtain ⟨T8, h8, X8, e8, W8, st8⟩ := putF X7 hx hZ hown (host := "") (Or.inl (hw _ (List.mem_of_getElem? (i := 54) rfl))) Via.refl e7 (((F_valid_b1.other W1 (Or.inr (slot_ne (Or.inl (hw _ (List.mem_of_getElem? (i := 38) rfl))) (Or.inl (hw _ (List.mem_of_getElem? (i := 34) rfl))) (by decide) (t := .int) (t' := .int) (by decide) (by decide)))).other W3 (Or.inr (slot_ne (Or.inl (hw _ (List.mem_of_getElem? (i := 38) rfl))) (Or.inl (hw _ (List.mem_of_getElem? (i := 32) rfl))) (by decide) (t := .int) (t' := .long) (by decide) (by decide)))).other W7 (Or.inr (slot_ne (Or.inl (hw _ (List.mem_of_getElem? (i := 38) rfl))) (Or.inl (hw _ (List.mem_of_getElem? (i := 36) rfl))) (by decide) (t := .int) (t' := .boolean) (by decide) (by decide)))) (((E_b1.wr W1).wr W3).wr W7) (Or.inl (hw _ (List.mem_of_getElem? (i := 38) rfl))) (hw _ (List.mem_of_getElem? (i := 2) rfl)) (ty := .int) (by decide) rfl rfl (g := (mkF m 51 #[.val (.ref b1), .val (.int p1)] [(.int (p1 + (1 : Int32))), (.ref b1)])) rfl rfl (hb hby d6_51)
      refine go1 st8 ?_
      have Fw8 := (((F_valid_b1.other W1 (Or.inr (slot_ne (Or.inl (hw _ (List.mem_of_getElem? (i := 38) rfl))) (Or.inl (hw _ (List.mem_of_getElem? (i := 34) rfl))) (by decide) (t := .int) (t' := .int) (by decide) (by decide)))).other W3 (Or.inr (slot_ne (Or.inl (hw _ (List.mem_of_getElem? (i := 38) rfl))) (Or.inl (hw _ (List.mem_of_getElem? (i := 32) rfl))) (by decide) (t := .int) (t' := .long) (by decide) (by decide)))).other W7 (Or.inr (slot_ne (Or.inl (hw _ (List.mem_of_getElem? (i := 38) rfl))) (Or.inl (hw _ (List.mem_of_getElem? (i := 36) rfl))) (by decide) (t := .int) (t' := .boolean) (by decide) (by decide)))).same W8
      have N8 := Fr.snoc X8 N7 g_b1
      show Go p.tables e below T8 (mkF m 54 #[.val (.ref b1), .val (.int p1)] []) _
      refine goR X8 (BodyLoose.notSynchronized Bd) (v := none) (fun _ => rfl) (Q6 Z b1 p1 t1 d1 l1 v1 c1 r1 nb cp1 cd1 cs1 h0 n0) (fun fs hr => X8.returnOut hx Bd.returns (hb hby d6_54) hr) (by decide) (by decide) ?_
      show Q6 Z b1 p1 t1 d1 l1 v1 c1 r1 nb cp1 cd1 cs1 h0 n0 _ T8.heap _
      rw [e8]
      exact ⟨rfl, N8, (((((Keep.refl h0 [b1]).wr W1 (Or.inl (List.mem_of_getElem? (i := 0) rfl))).wr W3 (Or.inl (List.mem_of_getElem? (i := 0) rfl))).wr W7 (Or.inl (List.mem_of_getElem? (i := 0) rfl))).wr W8 (Or.inl (List.mem_of_getElem? (i := 0) rfl))), ((((E_b1.wr W1).wr W3).wr W7).wr W8), (((Fw1.other W3 (Or.inr (slot_ne (Or.inl (hw _ (List.mem_of_getElem? (i := 34) rfl))) (Or.inl (hw _ (List.mem_of_getElem? (i := 32) rfl))) (by decide) (t := .int) (t' := .long) (by decide) (by decide)))).other W7 (Or.inr (slot_ne (Or.inl (hw _ (List.mem_of_getElem? (i := 34) rfl))) (Or.inl (hw _ (List.mem_of_getElem? (i := 36) rfl))) (by decide) (t := .int) (t' := .boolean) (by decide) (by decide)))).other W8 (Or.inr (slot_ne (Or.inl (hw _ (List.mem_of_getElem? (i := 34) rfl))) (Or.inl (hw _ (List.mem_of_getElem? (i := 38) rfl))) (by decide) (t := .int) (t' := .int) (by decide) (by decide)))), ((Fw3.other W7 (Or.inr (slot_ne (Or.inl (hw _ (List.mem_of_getElem? (i := 32) rfl))) (Or.inl (hw _ (List.mem_of_getElem? (i := 36) rfl))) (by decide) (t := .long) (t' := .boolean) (by decide) (by decide)))).other W8 (Or.inr (slot_ne (Or.inl (hw _ (List.mem_of_getElem? (i := 32) rfl))) (Or.inl (hw _ (List.mem_of_getElem? (i := 38) rfl))) (by decide) (t := .long) (t' := .int) (by decide) (by decide)))), (by rw [own_left, if_pos hc4, if_pos hc6]; exact (Fw7.other W8 (Or.inr (slot_ne (Or.inl (hw _ (List.mem_of_getElem? (i := 36) rfl))) (Or.inl (hw _ (List.mem_of_getElem? (i := 38) rfl))) (by decide) (t := .boolean) (t' := .int) (by decide) (by decide))))), Fw8, ((((F_counted_b1.other W1 (Or.inr (slot_ne (Or.inl (hw _ (List.mem_of_getElem? (i := 40) rfl))) (Or.inl (hw _ (List.mem_of_getElem? (i := 34) rfl))) (by decide) (t := .int) (t' := .int) (by decide) (by decide)))).other W3 (Or.inr (slot_ne (Or.inl (hw _ (List.mem_of_getElem? (i := 40) rfl))) (Or.inl (hw _ (List.mem_of_getElem? (i := 32) rfl))) (by decide) (t := .int) (t' := .long) (by decide) (by decide)))).other W7 (Or.inr (slot_ne (Or.inl (hw _ (List.mem_of_getElem? (i := 40) rfl))) (Or.inl (hw _ (List.mem_of_getElem? (i := 36) rfl))) (by decide) (t := .int) (t' := .boolean) (by decide) (by decide)))).other W8 (Or.inr (slot_ne (Or.inl (hw _ (List.mem_of_getElem? (i := 40) rfl))) (Or.inl (hw _ (List.mem_of_getElem? (i := 38) rfl))) (by decide) (t := .int) (t' := .int) (by decide) (by decide)))), ((((F_rotations_b1.other W1 (Or.inr (slot_ne (Or.inl (hw _ (List.mem_of_getElem? (i := 42) rfl))) (Or.inl (hw _ (List.mem_of_getElem? (i := 34) rfl))) (by decide) (t := .int) (t' := .int) (by decide) (by decide)))).other W3 (Or.inr (slot_ne (Or.inl (hw _ (List.mem_of_getElem? (i := 42) rfl))) (Or.inl (hw _ (List.mem_of_getElem? (i := 32) rfl))) (by decide) (t := .int) (t' := .long) (by decide) (by decide)))).other W7 (Or.inr (slot_ne (Or.inl (hw _ (List.mem_of_getElem? (i := 42) rfl))) (Or.inl (hw _ (List.mem_of_getElem? (i := 36) rfl))) (by decide) (t := .int) (t' := .boolean) (by decide) (by decide)))).other W8 (Or.inr (slot_ne (Or.inl (hw _ (List.mem_of_getElem? (i := 42) rfl))) (Or.inl (hw _ (List.mem_of_getElem? (i := 38) rfl))) (by decide) (t := .int) (t' := .int) (by decide) (by decide)))), ((((F_nodes_b1.other W1 (Or.inr (slot_ne (Or.inr (hw _ (List.mem_of_getElem? (i := 26) rfl))) (Or.inl (hw _ (List.mem_of_getElem? (i := 34) rfl))) (by decide) (t := (.array (.object "com/example/carmine/carmine/Node"))) (t' := .int) (by decide) (by decide)))).other W3 (Or.inr (slot_ne (Or.inr (hw _ (List.mem_of_getElem? (i := 26) rfl))) (Or.inl (hw _ (List.mem_of_getElem? (i := 32) rfl))) (by decide) (t := (.array (.object "com/example/carmine/carmine/Node"))) (t' := .long) (by decide) (by decide)))).other W7 (Or.inr (slot_ne (Or.inr (hw _ (List.mem_of_getElem? (i := 26) rfl))) (Or.inl (hw _ (List.mem_of_getElem? (i := 36) rfl))) (by decide) (t := (.array (.object "com/example/carmine/carmine/Node"))) (t' := .boolean) (by decide) (by decide)))).other W8 (Or.inr (slot_ne (Or.inr (hw _ (List.mem_of_getElem? (i := 26) rfl))) (Or.inl (hw _ (List.mem_of_getElem? (i := 38) rfl))) (by decide) (t := (.array (.object "com/example/carmine/carmine/Node"))) (t' := .int) (by decide) (by decide)))), ((((F_copying_b1.other W1 (Or.inr (slot_ne (Or.inr (hw _ (List.mem_of_getElem? (i := 28) rfl))) (Or.inl (hw _ (List.mem_of_getElem? (i := 34) rfl))) (by decide) (t := .boolean) (t' := .int) (by decide) (by decide)))).other W3 (Or.inr (slot_ne (Or.inr (hw _ (List.mem_of_getElem? (i := 28) rfl))) (Or.inl (hw _ (List.mem_of_getElem? (i := 32) rfl))) (by decide) (t := .boolean) (t' := .long) (by decide) (by decide)))).other W7 (Or.inr (slot_ne (Or.inr (hw _ (List.mem_of_getElem? (i := 28) rfl))) (Or.inl (hw _ (List.mem_of_getElem? (i := 36) rfl))) (by decide) (t := .boolean) (t' := .boolean) (by decide) (by decide)))).other W8 (Or.inr (slot_ne (Or.inr (hw _ (List.mem_of_getElem? (i := 28) rfl))) (Or.inl (hw _ (List.mem_of_getElem? (i := 38) rfl))) (by decide) (t := .boolean) (t' := .int) (by decide) (by decide)))), ((((F_coldDescents_b1.other W1 (Or.inr (slot_ne (Or.inl (hw _ (List.mem_of_getElem? (i := 44) rfl))) (Or.inl (hw _ (List.mem_of_getElem? (i := 34) rfl))) (by decide) (t := .int) (t' := .int) (by decide) (by decide)))).other W3 (Or.inr (slot_ne (Or.inl (hw _ (List.mem_of_getElem? (i := 44) rfl))) (Or.inl (hw _ (List.mem_of_getElem? (i := 32) rfl))) (by decide) (t := .int) (t' := .long) (by decide) (by decide)))).other W7 (Or.inr (slot_ne (Or.inl (hw _ (List.mem_of_getElem? (i := 44) rfl))) (Or.inl (hw _ (List.mem_of_getElem? (i := 36) rfl))) (by decide) (t := .int) (t' := .boolean) (by decide) (by decide)))).other W8 (Or.inr (slot_ne (Or.inl (hw _ (List.mem_of_getElem? (i := 44) rfl))) (Or.inl (hw _ (List.mem_of_getElem? (i := 38) rfl))) (by decide) (t := .int) (t' := .int) (by decide) (by decide)))), ((((F_coldSpan_b1.other W1 (Or.inr (slot_ne (Or.inl (hw _ (List.mem_of_getElem? (i := 11) rfl))) (Or.inl (hw _ (List.mem_of_getElem? (i := 34) rfl))) (by decide) (t := .int) (t' := .int) (by decide) (by decide)))).other W3 (Or.inr (slot_ne (Or.inl (hw _ (List.mem_of_getElem? (i := 11) rfl))) (Or.inl (hw _ (List.mem_of_getElem? (i := 32) rfl))) (by decide) (t := .int) (t' := .long) (by decide) (by decide)))).other W7 (Or.inr (slot_ne (Or.inl (hw _ (List.mem_of_getElem? (i := 11) rfl))) (Or.inl (hw _ (List.mem_of_getElem? (i := 36) rfl))) (by decide) (t := .int) (t' := .boolean) (by decide) (by decide)))).other W8 (Or.inr (slot_ne (Or.inl (hw _ (List.mem_of_getElem? (i := 11) rfl))) (Or.inl (hw _ (List.mem_of_getElem? (i := 38) rfl))) (by decide) (t := .int) (t' := .int) (by decide) (by decide))))⟩
    · skip
      refine go1 (fun _ => XS.ifNo X5.here hx rfl (hb hby d6_36) rfl ((if0 _ _).trans (feq (mt (lw_eq _ _).mp hc6)).1)) ?_
      show Go p.tables e below T5 (mkF m 39 #[.val (.ref b1), .val (.int p1)] [(.ref b1)]) _
      refine go1 (fun _ => XS.iconst X5.here hx rfl (hb hby d6_39)) ?_
      show Go p.tables e below T5 (mkF m 40 #[.val (.ref b1), .val (.int p1)] [(.int (1 : Int32)), (.ref b1)]) _
      refine go1 (fun _ => XS.goto X5.here hx rfl (pc0 := 40) (pc' := 44) rfl (hb hby d6_40) (by decide) (by decide)) ?_
      show Go p.tables e below T5 (mkF m 44 #[.val (.ref b1), .val (.int p1)] [(.int (1 : Int32)), (.ref b1)]) _
      obtain ⟨T9, h9, X9, e9, W9, st9⟩ := putFN X5 hx hZ hown (hw _ (List.mem_of_getElem? (i := 53) rfl)) Via.refl e5 ((F_left_b1.other W1 (Or.inr (slot_ne (Or.inl (hw _ (List.mem_of_getElem? (i := 36) rfl))) (Or.inl (hw _ (List.mem_of_getElem? (i := 34) rfl))) (by decide) (t := .boolean) (t' := .int) (by decide) (by decide)))).other W3 (Or.inr (slot_ne (Or.inl (hw _ (List.mem_of_getElem? (i := 36) rfl))) (Or.inl (hw _ (List.mem_of_getElem? (i := 32) rfl))) (by decide) (t := .boolean) (t' := .long) (by decide) (by decide)))) ((E_b1.wr W1).wr W3) (Or.inl (hw _ (List.mem_of_getElem? (i := 36) rfl))) (hw _ (List.mem_of_getElem? (i := 2) rfl)) (ty := .boolean) (v' := (.int (1 : Int32))) (by decide) rfl (by decide) (g := (mkF m 44 #[.val (.ref b1), .val (.int p1)] [(.int (1 : Int32)), (.ref b1)])) rfl rfl (hb hby d6_44)
      refine go1 st9 ?_
      have Fw9 := ((F_left_b1.other W1 (Or.inr (slot_ne (Or.inl (hw _ (List.mem_of_getElem? (i := 36) rfl))) (Or.inl (hw _ (List.mem_of_getElem? (i := 34) rfl))) (by decide) (t := .boolean) (t' := .int) (by decide) (by decide)))).other W3 (Or.inr (slot_ne (Or.inl (hw _ (List.mem_of_getElem? (i := 36) rfl))) (Or.inl (hw _ (List.mem_of_getElem? (i := 32) rfl))) (by decide) (t := .boolean) (t' := .long) (by decide) (by decide)))).same W9
      have N9 := Fr.snoc X9 N3 g_b1
      show Go p.tables e below T9 (mkF m 47 #[.val (.ref b1), .val (.int p1)] []) _
      refine go1 (fun _ => XS.aloadN X9.here hx rfl (hb hby d6_47) rfl rfl) ?_
      show Go p.tables e below T9 (mkF m 48 #[.val (.ref b1), .val (.int p1)] [(.ref b1)]) _
      refine go1 (fun _ => XS.iloadN X9.here hx rfl (hb hby d6_48) rfl) ?_
      show Go p.tables e below T9 (mkF m 49 #[.val (.ref b1), .val (.int p1)] [(.int p1), (.ref b1)]) _
      refine go1 (fun _ => XS.iconst X9.here hx rfl (hb hby d6_49)) ?_
      show Go p.tables e below T9 (mkF m 50 #[.val (.ref b1), .val (.int p1)] [(.int (1 : Int32)), (.int p1), (.ref b1)]) _
      refine go1 (fun _ => XS.iadd X9.here hx rfl (hb hby d6_50) rfl) ?_
      show Go p.tables e below T9 (mkF m 51 #[.val (.ref b1), .val (.int p1)] [(.int (p1 + (1 : Int32))), (.ref b1)]) _
      obtain ⟨T10, h10, X10, e10, W10, st10⟩ := putF X9 hx hZ hown (host := "") (Or.inl (hw _ (List.mem_of_getElem? (i := 54) rfl))) Via.refl e9 (((F_valid_b1.other W1 (Or.inr (slot_ne (Or.inl (hw _ (List.mem_of_getElem? (i := 38) rfl))) (Or.inl (hw _ (List.mem_of_getElem? (i := 34) rfl))) (by decide) (t := .int) (t' := .int) (by decide) (by decide)))).other W3 (Or.inr (slot_ne (Or.inl (hw _ (List.mem_of_getElem? (i := 38) rfl))) (Or.inl (hw _ (List.mem_of_getElem? (i := 32) rfl))) (by decide) (t := .int) (t' := .long) (by decide) (by decide)))).other W9 (Or.inr (slot_ne (Or.inl (hw _ (List.mem_of_getElem? (i := 38) rfl))) (Or.inl (hw _ (List.mem_of_getElem? (i := 36) rfl))) (by decide) (t := .int) (t' := .boolean) (by decide) (by decide)))) (((E_b1.wr W1).wr W3).wr W9) (Or.inl (hw _ (List.mem_of_getElem? (i := 38) rfl))) (hw _ (List.mem_of_getElem? (i := 2) rfl)) (ty := .int) (by decide) rfl rfl (g := (mkF m 51 #[.val (.ref b1), .val (.int p1)] [(.int (p1 + (1 : Int32))), (.ref b1)])) rfl rfl (hb hby d6_51)
      refine go1 st10 ?_
      have Fw10 := (((F_valid_b1.other W1 (Or.inr (slot_ne (Or.inl (hw _ (List.mem_of_getElem? (i := 38) rfl))) (Or.inl (hw _ (List.mem_of_getElem? (i := 34) rfl))) (by decide) (t := .int) (t' := .int) (by decide) (by decide)))).other W3 (Or.inr (slot_ne (Or.inl (hw _ (List.mem_of_getElem? (i := 38) rfl))) (Or.inl (hw _ (List.mem_of_getElem? (i := 32) rfl))) (by decide) (t := .int) (t' := .long) (by decide) (by decide)))).other W9 (Or.inr (slot_ne (Or.inl (hw _ (List.mem_of_getElem? (i := 38) rfl))) (Or.inl (hw _ (List.mem_of_getElem? (i := 36) rfl))) (by decide) (t := .int) (t' := .boolean) (by decide) (by decide)))).same W10
      have N10 := Fr.snoc X10 N9 g_b1
      show Go p.tables e below T10 (mkF m 54 #[.val (.ref b1), .val (.int p1)] []) _
      refine goR X10 (BodyLoose.notSynchronized Bd) (v := none) (fun _ => rfl) (Q6 Z b1 p1 t1 d1 l1 v1 c1 r1 nb cp1 cd1 cs1 h0 n0) (fun fs hr => X10.returnOut hx Bd.returns (hb hby d6_54) hr) (by decide) (by decide) ?_
      show Q6 Z b1 p1 t1 d1 l1 v1 c1 r1 nb cp1 cd1 cs1 h0 n0 _ T10.heap _
      rw [e10]
      exact ⟨rfl, N10, (((((Keep.refl h0 [b1]).wr W1 (Or.inl (List.mem_of_getElem? (i := 0) rfl))).wr W3 (Or.inl (List.mem_of_getElem? (i := 0) rfl))).wr W9 (Or.inl (List.mem_of_getElem? (i := 0) rfl))).wr W10 (Or.inl (List.mem_of_getElem? (i := 0) rfl))), ((((E_b1.wr W1).wr W3).wr W9).wr W10), (((Fw1.other W3 (Or.inr (slot_ne (Or.inl (hw _ (List.mem_of_getElem? (i := 34) rfl))) (Or.inl (hw _ (List.mem_of_getElem? (i := 32) rfl))) (by decide) (t := .int) (t' := .long) (by decide) (by decide)))).other W9 (Or.inr (slot_ne (Or.inl (hw _ (List.mem_of_getElem? (i := 34) rfl))) (Or.inl (hw _ (List.mem_of_getElem? (i := 36) rfl))) (by decide) (t := .int) (t' := .boolean) (by decide) (by decide)))).other W10 (Or.inr (slot_ne (Or.inl (hw _ (List.mem_of_getElem? (i := 34) rfl))) (Or.inl (hw _ (List.mem_of_getElem? (i := 38) rfl))) (by decide) (t := .int) (t' := .int) (by decide) (by decide)))), ((Fw3.other W9 (Or.inr (slot_ne (Or.inl (hw _ (List.mem_of_getElem? (i := 32) rfl))) (Or.inl (hw _ (List.mem_of_getElem? (i := 36) rfl))) (by decide) (t := .long) (t' := .boolean) (by decide) (by decide)))).other W10 (Or.inr (slot_ne (Or.inl (hw _ (List.mem_of_getElem? (i := 32) rfl))) (Or.inl (hw _ (List.mem_of_getElem? (i := 38) rfl))) (by decide) (t := .long) (t' := .int) (by decide) (by decide)))), (by rw [own_left, if_pos hc4, if_neg hc6]; exact (Fw9.other W10 (Or.inr (slot_ne (Or.inl (hw _ (List.mem_of_getElem? (i := 36) rfl))) (Or.inl (hw _ (List.mem_of_getElem? (i := 38) rfl))) (by decide) (t := .boolean) (t' := .int) (by decide) (by decide))))), Fw10, ((((F_counted_b1.other W1 (Or.inr (slot_ne (Or.inl (hw _ (List.mem_of_getElem? (i := 40) rfl))) (Or.inl (hw _ (List.mem_of_getElem? (i := 34) rfl))) (by decide) (t := .int) (t' := .int) (by decide) (by decide)))).other W3 (Or.inr (slot_ne (Or.inl (hw _ (List.mem_of_getElem? (i := 40) rfl))) (Or.inl (hw _ (List.mem_of_getElem? (i := 32) rfl))) (by decide) (t := .int) (t' := .long) (by decide) (by decide)))).other W9 (Or.inr (slot_ne (Or.inl (hw _ (List.mem_of_getElem? (i := 40) rfl))) (Or.inl (hw _ (List.mem_of_getElem? (i := 36) rfl))) (by decide) (t := .int) (t' := .boolean) (by decide) (by decide)))).other W10 (Or.inr (slot_ne (Or.inl (hw _ (List.mem_of_getElem? (i := 40) rfl))) (Or.inl (hw _ (List.mem_of_getElem? (i := 38) rfl))) (by decide) (t := .int) (t' := .int) (by decide) (by decide)))), ((((F_rotations_b1.other W1 (Or.inr (slot_ne (Or.inl (hw _ (List.mem_of_getElem? (i := 42) rfl))) (Or.inl (hw _ (List.mem_of_getElem? (i := 34) rfl))) (by decide) (t := .int) (t' := .int) (by decide) (by decide)))).other W3 (Or.inr (slot_ne (Or.inl (hw _ (List.mem_of_getElem? (i := 42) rfl))) (Or.inl (hw _ (List.mem_of_getElem? (i := 32) rfl))) (by decide) (t := .int) (t' := .long) (by decide) (by decide)))).other W9 (Or.inr (slot_ne (Or.inl (hw _ (List.mem_of_getElem? (i := 42) rfl))) (Or.inl (hw _ (List.mem_of_getElem? (i := 36) rfl))) (by decide) (t := .int) (t' := .boolean) (by decide) (by decide)))).other W10 (Or.inr (slot_ne (Or.inl (hw _ (List.mem_of_getElem? (i := 42) rfl))) (Or.inl (hw _ (List.mem_of_getElem? (i := 38) rfl))) (by decide) (t := .int) (t' := .int) (by decide) (by decide)))), ((((F_nodes_b1.other W1 (Or.inr (slot_ne (Or.inr (hw _ (List.mem_of_getElem? (i := 26) rfl))) (Or.inl (hw _ (List.mem_of_getElem? (i := 34) rfl))) (by decide) (t := (.array (.object "com/example/carmine/carmine/Node"))) (t' := .int) (by decide) (by decide)))).other W3 (Or.inr (slot_ne (Or.inr (hw _ (List.mem_of_getElem? (i := 26) rfl))) (Or.inl (hw _ (List.mem_of_getElem? (i := 32) rfl))) (by decide) (t := (.array (.object "com/example/carmine/carmine/Node"))) (t' := .long) (by decide) (by decide)))).other W9 (Or.inr (slot_ne (Or.inr (hw _ (List.mem_of_getElem? (i := 26) rfl))) (Or.inl (hw _ (List.mem_of_getElem? (i := 36) rfl))) (by decide) (t := (.array (.object "com/example/carmine/carmine/Node"))) (t' := .boolean) (by decide) (by decide)))).other W10 (Or.inr (slot_ne (Or.inr (hw _ (List.mem_of_getElem? (i := 26) rfl))) (Or.inl (hw _ (List.mem_of_getElem? (i := 38) rfl))) (by decide) (t := (.array (.object "com/example/carmine/carmine/Node"))) (t' := .int) (by decide) (by decide)))), ((((F_copying_b1.other W1 (Or.inr (slot_ne (Or.inr (hw _ (List.mem_of_getElem? (i := 28) rfl))) (Or.inl (hw _ (List.mem_of_getElem? (i := 34) rfl))) (by decide) (t := .boolean) (t' := .int) (by decide) (by decide)))).other W3 (Or.inr (slot_ne (Or.inr (hw _ (List.mem_of_getElem? (i := 28) rfl))) (Or.inl (hw _ (List.mem_of_getElem? (i := 32) rfl))) (by decide) (t := .boolean) (t' := .long) (by decide) (by decide)))).other W9 (Or.inr (slot_ne (Or.inr (hw _ (List.mem_of_getElem? (i := 28) rfl))) (Or.inl (hw _ (List.mem_of_getElem? (i := 36) rfl))) (by decide) (t := .boolean) (t' := .boolean) (by decide) (by decide)))).other W10 (Or.inr (slot_ne (Or.inr (hw _ (List.mem_of_getElem? (i := 28) rfl))) (Or.inl (hw _ (List.mem_of_getElem? (i := 38) rfl))) (by decide) (t := .boolean) (t' := .int) (by decide) (by decide)))), ((((F_coldDescents_b1.other W1 (Or.inr (slot_ne (Or.inl (hw _ (List.mem_of_getElem? (i := 44) rfl))) (Or.inl (hw _ (List.mem_of_getElem? (i := 34) rfl))) (by decide) (t := .int) (t' := .int) (by decide) (by decide)))).other W3 (Or.inr (slot_ne (Or.inl (hw _ (List.mem_of_getElem? (i := 44) rfl))) (Or.inl (hw _ (List.mem_of_getElem? (i := 32) rfl))) (by decide) (t := .int) (t' := .long) (by decide) (by decide)))).other W9 (Or.inr (slot_ne (Or.inl (hw _ (List.mem_of_getElem? (i := 44) rfl))) (Or.inl (hw _ (List.mem_of_getElem? (i := 36) rfl))) (by decide) (t := .int) (t' := .boolean) (by decide) (by decide)))).other W10 (Or.inr (slot_ne (Or.inl (hw _ (List.mem_of_getElem? (i := 44) rfl))) (Or.inl (hw _ (List.mem_of_getElem? (i := 38) rfl))) (by decide) (t := .int) (t' := .int) (by decide) (by decide)))), ((((F_coldSpan_b1.other W1 (Or.inr (slot_ne (Or.inl (hw _ (List.mem_of_getElem? (i := 11) rfl))) (Or.inl (hw _ (List.mem_of_getElem? (i := 34) rfl))) (by decide) (t := .int) (t' := .int) (by decide) (by decide)))).other W3 (Or.inr (slot_ne (Or.inl (hw _ (List.mem_of_getElem? (i := 11) rfl))) (Or.inl (hw _ (List.mem_of_getElem? (i := 32) rfl))) (by decide) (t := .int) (t' := .long) (by decide) (by decide)))).other W9 (Or.inr (slot_ne (Or.inl (hw _ (List.mem_of_getElem? (i := 11) rfl))) (Or.inl (hw _ (List.mem_of_getElem? (i := 36) rfl))) (by decide) (t := .int) (t' := .boolean) (by decide) (by decide)))).other W10 (Or.inr (slot_ne (Or.inl (hw _ (List.mem_of_getElem? (i := 11) rfl))) (Or.inl (hw _ (List.mem_of_getElem? (i := 38) rfl))) (by decide) (t := .int) (t' := .int) (by decide) (by decide))))⟩
  · skip
    refine go1 (fun _ => XS.ifYes X3.here hx rfl (pc0 := 21) (pc' := 43) rfl (hb hby d6_21) rfl ((if0 _ _).trans (flt hc4).2.2.2) (by decide) (by decide)) ?_
    show Go p.tables e below T3 (mkF m 43 #[.val (.ref b1), .val (.int p1)] [(.ref b1)]) _
    refine go1 (fun _ => XS.iconst X3.here hx rfl (hb hby d6_43)) ?_
    show Go p.tables e below T3 (mkF m 44 #[.val (.ref b1), .val (.int p1)] [(.int (0 : Int32)), (.ref b1)]) _
    obtain ⟨T11, h11, X11, e11, W11, st11⟩ := putFN X3 hx hZ hown (hw _ (List.mem_of_getElem? (i := 53) rfl)) Via.refl e3 ((F_left_b1.other W1 (Or.inr (slot_ne (Or.inl (hw _ (List.mem_of_getElem? (i := 36) rfl))) (Or.inl (hw _ (List.mem_of_getElem? (i := 34) rfl))) (by decide) (t := .boolean) (t' := .int) (by decide) (by decide)))).other W3 (Or.inr (slot_ne (Or.inl (hw _ (List.mem_of_getElem? (i := 36) rfl))) (Or.inl (hw _ (List.mem_of_getElem? (i := 32) rfl))) (by decide) (t := .boolean) (t' := .long) (by decide) (by decide)))) ((E_b1.wr W1).wr W3) (Or.inl (hw _ (List.mem_of_getElem? (i := 36) rfl))) (hw _ (List.mem_of_getElem? (i := 2) rfl)) (ty := .boolean) (v' := (.int (0 : Int32))) (by decide) rfl (by decide) (g := (mkF m 44 #[.val (.ref b1), .val (.int p1)] [(.int (0 : Int32)), (.ref b1)])) rfl rfl (hb hby d6_44)
    refine go1 st11 ?_
    have Fw11 := ((F_left_b1.other W1 (Or.inr (slot_ne (Or.inl (hw _ (List.mem_of_getElem? (i := 36) rfl))) (Or.inl (hw _ (List.mem_of_getElem? (i := 34) rfl))) (by decide) (t := .boolean) (t' := .int) (by decide) (by decide)))).other W3 (Or.inr (slot_ne (Or.inl (hw _ (List.mem_of_getElem? (i := 36) rfl))) (Or.inl (hw _ (List.mem_of_getElem? (i := 32) rfl))) (by decide) (t := .boolean) (t' := .long) (by decide) (by decide)))).same W11
    have N11 := Fr.snoc X11 N3 g_b1
    show Go p.tables e below T11 (mkF m 47 #[.val (.ref b1), .val (.int p1)] []) _
    refine go1 (fun _ => XS.aloadN X11.here hx rfl (hb hby d6_47) rfl rfl) ?_
    show Go p.tables e below T11 (mkF m 48 #[.val (.ref b1), .val (.int p1)] [(.ref b1)]) _
    refine go1 (fun _ => XS.iloadN X11.here hx rfl (hb hby d6_48) rfl) ?_
    show Go p.tables e below T11 (mkF m 49 #[.val (.ref b1), .val (.int p1)] [(.int p1), (.ref b1)]) _
    refine go1 (fun _ => XS.iconst X11.here hx rfl (hb hby d6_49)) ?_
    show Go p.tables e below T11 (mkF m 50 #[.val (.ref b1), .val (.int p1)] [(.int (1 : Int32)), (.int p1), (.ref b1)]) _
    refine go1 (fun _ => XS.iadd X11.here hx rfl (hb hby d6_50) rfl) ?_
    show Go p.tables e below T11 (mkF m 51 #[.val (.ref b1), .val (.int p1)] [(.int (p1 + (1 : Int32))), (.ref b1)]) _
    obtain ⟨T12, h12, X12, e12, W12, st12⟩ := putF X11 hx hZ hown (host := "") (Or.inl (hw _ (List.mem_of_getElem? (i := 54) rfl))) Via.refl e11 (((F_valid_b1.other W1 (Or.inr (slot_ne (Or.inl (hw _ (List.mem_of_getElem? (i := 38) rfl))) (Or.inl (hw _ (List.mem_of_getElem? (i := 34) rfl))) (by decide) (t := .int) (t' := .int) (by decide) (by decide)))).other W3 (Or.inr (slot_ne (Or.inl (hw _ (List.mem_of_getElem? (i := 38) rfl))) (Or.inl (hw _ (List.mem_of_getElem? (i := 32) rfl))) (by decide) (t := .int) (t' := .long) (by decide) (by decide)))).other W11 (Or.inr (slot_ne (Or.inl (hw _ (List.mem_of_getElem? (i := 38) rfl))) (Or.inl (hw _ (List.mem_of_getElem? (i := 36) rfl))) (by decide) (t := .int) (t' := .boolean) (by decide) (by decide)))) (((E_b1.wr W1).wr W3).wr W11) (Or.inl (hw _ (List.mem_of_getElem? (i := 38) rfl))) (hw _ (List.mem_of_getElem? (i := 2) rfl)) (ty := .int) (by decide) rfl rfl (g := (mkF m 51 #[.val (.ref b1), .val (.int p1)] [(.int (p1 + (1 : Int32))), (.ref b1)])) rfl rfl (hb hby d6_51)
    refine go1 st12 ?_
    have Fw12 := (((F_valid_b1.other W1 (Or.inr (slot_ne (Or.inl (hw _ (List.mem_of_getElem? (i := 38) rfl))) (Or.inl (hw _ (List.mem_of_getElem? (i := 34) rfl))) (by decide) (t := .int) (t' := .int) (by decide) (by decide)))).other W3 (Or.inr (slot_ne (Or.inl (hw _ (List.mem_of_getElem? (i := 38) rfl))) (Or.inl (hw _ (List.mem_of_getElem? (i := 32) rfl))) (by decide) (t := .int) (t' := .long) (by decide) (by decide)))).other W11 (Or.inr (slot_ne (Or.inl (hw _ (List.mem_of_getElem? (i := 38) rfl))) (Or.inl (hw _ (List.mem_of_getElem? (i := 36) rfl))) (by decide) (t := .int) (t' := .boolean) (by decide) (by decide)))).same W12
    have N12 := Fr.snoc X12 N11 g_b1
    show Go p.tables e below T12 (mkF m 54 #[.val (.ref b1), .val (.int p1)] []) _
    refine goR X12 (BodyLoose.notSynchronized Bd) (v := none) (fun _ => rfl) (Q6 Z b1 p1 t1 d1 l1 v1 c1 r1 nb cp1 cd1 cs1 h0 n0) (fun fs hr => X12.returnOut hx Bd.returns (hb hby d6_54) hr) (by decide) (by decide) ?_
    show Q6 Z b1 p1 t1 d1 l1 v1 c1 r1 nb cp1 cd1 cs1 h0 n0 _ T12.heap _
    rw [e12]
    exact ⟨rfl, N12, (((((Keep.refl h0 [b1]).wr W1 (Or.inl (List.mem_of_getElem? (i := 0) rfl))).wr W3 (Or.inl (List.mem_of_getElem? (i := 0) rfl))).wr W11 (Or.inl (List.mem_of_getElem? (i := 0) rfl))).wr W12 (Or.inl (List.mem_of_getElem? (i := 0) rfl))), ((((E_b1.wr W1).wr W3).wr W11).wr W12), (((Fw1.other W3 (Or.inr (slot_ne (Or.inl (hw _ (List.mem_of_getElem? (i := 34) rfl))) (Or.inl (hw _ (List.mem_of_getElem? (i := 32) rfl))) (by decide) (t := .int) (t' := .long) (by decide) (by decide)))).other W11 (Or.inr (slot_ne (Or.inl (hw _ (List.mem_of_getElem? (i := 34) rfl))) (Or.inl (hw _ (List.mem_of_getElem? (i := 36) rfl))) (by decide) (t := .int) (t' := .boolean) (by decide) (by decide)))).other W12 (Or.inr (slot_ne (Or.inl (hw _ (List.mem_of_getElem? (i := 34) rfl))) (Or.inl (hw _ (List.mem_of_getElem? (i := 38) rfl))) (by decide) (t := .int) (t' := .int) (by decide) (by decide)))), ((Fw3.other W11 (Or.inr (slot_ne (Or.inl (hw _ (List.mem_of_getElem? (i := 32) rfl))) (Or.inl (hw _ (List.mem_of_getElem? (i := 36) rfl))) (by decide) (t := .long) (t' := .boolean) (by decide) (by decide)))).other W12 (Or.inr (slot_ne (Or.inl (hw _ (List.mem_of_getElem? (i := 32) rfl))) (Or.inl (hw _ (List.mem_of_getElem? (i := 38) rfl))) (by decide) (t := .long) (t' := .int) (by decide) (by decide)))), (by rw [own_left, if_neg hc4]; exact (Fw11.other W12 (Or.inr (slot_ne (Or.inl (hw _ (List.mem_of_getElem? (i := 36) rfl))) (Or.inl (hw _ (List.mem_of_getElem? (i := 38) rfl))) (by decide) (t := .boolean) (t' := .int) (by decide) (by decide))))), Fw12, ((((F_counted_b1.other W1 (Or.inr (slot_ne (Or.inl (hw _ (List.mem_of_getElem? (i := 40) rfl))) (Or.inl (hw _ (List.mem_of_getElem? (i := 34) rfl))) (by decide) (t := .int) (t' := .int) (by decide) (by decide)))).other W3 (Or.inr (slot_ne (Or.inl (hw _ (List.mem_of_getElem? (i := 40) rfl))) (Or.inl (hw _ (List.mem_of_getElem? (i := 32) rfl))) (by decide) (t := .int) (t' := .long) (by decide) (by decide)))).other W11 (Or.inr (slot_ne (Or.inl (hw _ (List.mem_of_getElem? (i := 40) rfl))) (Or.inl (hw _ (List.mem_of_getElem? (i := 36) rfl))) (by decide) (t := .int) (t' := .boolean) (by decide) (by decide)))).other W12 (Or.inr (slot_ne (Or.inl (hw _ (List.mem_of_getElem? (i := 40) rfl))) (Or.inl (hw _ (List.mem_of_getElem? (i := 38) rfl))) (by decide) (t := .int) (t' := .int) (by decide) (by decide)))), ((((F_rotations_b1.other W1 (Or.inr (slot_ne (Or.inl (hw _ (List.mem_of_getElem? (i := 42) rfl))) (Or.inl (hw _ (List.mem_of_getElem? (i := 34) rfl))) (by decide) (t := .int) (t' := .int) (by decide) (by decide)))).other W3 (Or.inr (slot_ne (Or.inl (hw _ (List.mem_of_getElem? (i := 42) rfl))) (Or.inl (hw _ (List.mem_of_getElem? (i := 32) rfl))) (by decide) (t := .int) (t' := .long) (by decide) (by decide)))).other W11 (Or.inr (slot_ne (Or.inl (hw _ (List.mem_of_getElem? (i := 42) rfl))) (Or.inl (hw _ (List.mem_of_getElem? (i := 36) rfl))) (by decide) (t := .int) (t' := .boolean) (by decide) (by decide)))).other W12 (Or.inr (slot_ne (Or.inl (hw _ (List.mem_of_getElem? (i := 42) rfl))) (Or.inl (hw _ (List.mem_of_getElem? (i := 38) rfl))) (by decide) (t := .int) (t' := .int) (by decide) (by decide)))), ((((F_nodes_b1.other W1 (Or.inr (slot_ne (Or.inr (hw _ (List.mem_of_getElem? (i := 26) rfl))) (Or.inl (hw _ (List.mem_of_getElem? (i := 34) rfl))) (by decide) (t := (.array (.object "com/example/carmine/carmine/Node"))) (t' := .int) (by decide) (by decide)))).other W3 (Or.inr (slot_ne (Or.inr (hw _ (List.mem_of_getElem? (i := 26) rfl))) (Or.inl (hw _ (List.mem_of_getElem? (i := 32) rfl))) (by decide) (t := (.array (.object "com/example/carmine/carmine/Node"))) (t' := .long) (by decide) (by decide)))).other W11 (Or.inr (slot_ne (Or.inr (hw _ (List.mem_of_getElem? (i := 26) rfl))) (Or.inl (hw _ (List.mem_of_getElem? (i := 36) rfl))) (by decide) (t := (.array (.object "com/example/carmine/carmine/Node"))) (t' := .boolean) (by decide) (by decide)))).other W12 (Or.inr (slot_ne (Or.inr (hw _ (List.mem_of_getElem? (i := 26) rfl))) (Or.inl (hw _ (List.mem_of_getElem? (i := 38) rfl))) (by decide) (t := (.array (.object "com/example/carmine/carmine/Node"))) (t' := .int) (by decide) (by decide)))), ((((F_copying_b1.other W1 (Or.inr (slot_ne (Or.inr (hw _ (List.mem_of_getElem? (i := 28) rfl))) (Or.inl (hw _ (List.mem_of_getElem? (i := 34) rfl))) (by decide) (t := .boolean) (t' := .int) (by decide) (by decide)))).other W3 (Or.inr (slot_ne (Or.inr (hw _ (List.mem_of_getElem? (i := 28) rfl))) (Or.inl (hw _ (List.mem_of_getElem? (i := 32) rfl))) (by decide) (t := .boolean) (t' := .long) (by decide) (by decide)))).other W11 (Or.inr (slot_ne (Or.inr (hw _ (List.mem_of_getElem? (i := 28) rfl))) (Or.inl (hw _ (List.mem_of_getElem? (i := 36) rfl))) (by decide) (t := .boolean) (t' := .boolean) (by decide) (by decide)))).other W12 (Or.inr (slot_ne (Or.inr (hw _ (List.mem_of_getElem? (i := 28) rfl))) (Or.inl (hw _ (List.mem_of_getElem? (i := 38) rfl))) (by decide) (t := .boolean) (t' := .int) (by decide) (by decide)))), ((((F_coldDescents_b1.other W1 (Or.inr (slot_ne (Or.inl (hw _ (List.mem_of_getElem? (i := 44) rfl))) (Or.inl (hw _ (List.mem_of_getElem? (i := 34) rfl))) (by decide) (t := .int) (t' := .int) (by decide) (by decide)))).other W3 (Or.inr (slot_ne (Or.inl (hw _ (List.mem_of_getElem? (i := 44) rfl))) (Or.inl (hw _ (List.mem_of_getElem? (i := 32) rfl))) (by decide) (t := .int) (t' := .long) (by decide) (by decide)))).other W11 (Or.inr (slot_ne (Or.inl (hw _ (List.mem_of_getElem? (i := 44) rfl))) (Or.inl (hw _ (List.mem_of_getElem? (i := 36) rfl))) (by decide) (t := .int) (t' := .boolean) (by decide) (by decide)))).other W12 (Or.inr (slot_ne (Or.inl (hw _ (List.mem_of_getElem? (i := 44) rfl))) (Or.inl (hw _ (List.mem_of_getElem? (i := 38) rfl))) (by decide) (t := .int) (t' := .int) (by decide) (by decide)))), ((((F_coldSpan_b1.other W1 (Or.inr (slot_ne (Or.inl (hw _ (List.mem_of_getElem? (i := 11) rfl))) (Or.inl (hw _ (List.mem_of_getElem? (i := 34) rfl))) (by decide) (t := .int) (t' := .int) (by decide) (by decide)))).other W3 (Or.inr (slot_ne (Or.inl (hw _ (List.mem_of_getElem? (i := 11) rfl))) (Or.inl (hw _ (List.mem_of_getElem? (i := 32) rfl))) (by decide) (t := .int) (t' := .long) (by decide) (by decide)))).other W11 (Or.inr (slot_ne (Or.inl (hw _ (List.mem_of_getElem? (i := 11) rfl))) (Or.inl (hw _ (List.mem_of_getElem? (i := 36) rfl))) (by decide) (t := .int) (t' := .boolean) (by decide) (by decide)))).other W12 (Or.inr (slot_ne (Or.inl (hw _ (List.mem_of_getElem? (i := 11) rfl))) (Or.inl (hw _ (List.mem_of_getElem? (i := 38) rfl))) (by decide) (t := .int) (t' := .int) (by decide) (by decide))))⟩
theorem own_nat (i : Int32) (h : 0 ≤ i.toInt) : (i.toBitVec.toNat : Int) = i.toInt := by
  have q : i.toBitVec.toInt = i.toInt := rfl
  have l := i.toBitVec.isLt
  rw [BitVec.toInt_eq_toNat_cond] at q
  split at q <;> omega
theorem own_shl (x : Int64) (q : Int32) (k : Nat) (hk : q.toBitVec.toNat % 64 = k) : (x <<< (q &&& 0x3f).toInt64).toBitVec = x.toBitVec <<< k := by
  show x.toBitVec <<< ((q &&& 0x3f).toInt64.toBitVec.smod 64) = _
  rw [BitVec.shiftLeft_eq', (sm64 q k hk).1, smod64 k (sm64 q k hk).2]
theorem own_shr (x : Int64) (q : Int32) (k : Nat) (hk : q.toBitVec.toNat % 64 = k) : ((x.toUInt64 >>> (q &&& 0x3f).toInt64.toUInt64).toInt64).toBitVec = x.toBitVec >>> k := by
  have h5 := (sm64 q k hk).2
  show x.toBitVec >>> ((q &&& 0x3f).toInt64.toBitVec % 64) = _
  rw [BitVec.ushiftRight_eq', BitVec.toNat_umod, (sm64 q k hk).1, BitVec.toNat_ofNat]
  have : k % 2 ^ 64 % (64 : BitVec 64).toNat = k := by show k % 2 ^ 64 % 64 = k; omega
  rw [this]
theorem own_mbit (k j : Nat) (hk : k < 64) : (((1 : Int64).toBitVec <<< k) - (1 : Int64).toBitVec).getLsbD j = decide (j < k) := by
  have p : 2 ^ k < 2 ^ 64 := Nat.pow_lt_pow_right (by decide) hk
  have p1 : 0 < 2 ^ k := Nat.pow_pos (by decide)
  have e1 : ((1 : Int64).toBitVec <<< k).toNat = 2 ^ k := by
    rw [BitVec.toNat_shiftLeft, Nat.shiftLeft_eq, show (1 : Int64).toBitVec.toNat = 1 from by decide, Nat.one_mul, Nat.mod_eq_of_lt p]
  have e2 : (((1 : Int64).toBitVec <<< k) - (1 : Int64).toBitVec).toNat = 2 ^ k - 1 := by
    rw [BitVec.toNat_sub, e1, show (1 : Int64).toBitVec.toNat = 1 from by decide]
    omega
  rw [BitVec.getLsbD, e2, Nat.testBit_two_pow_sub_one]
theorem own_obit (k j : Nat) (hk : k < 64) : ((1 : Int64).toBitVec <<< k).getLsbD j = decide (j = k) := by
  have p : 2 ^ k < 2 ^ 64 := Nat.pow_lt_pow_right (by decide) hk
  have e1 : ((1 : Int64).toBitVec <<< k).toNat = 2 ^ k := by
    rw [BitVec.toNat_shiftLeft, Nat.shiftLeft_eq, show (1 : Int64).toBitVec.toNat = 1 from by decide, Nat.one_mul, Nat.mod_eq_of_lt p]
  rw [BitVec.getLsbD, e1, Nat.testBit_two_pow]
  by_cases q : k = j
  · simp [q]
  · simp [q, Ne.symm q]
theorem own_turn (t : Int64) (i : Int32) (h : 0 ≤ i.toInt ∧ i.toInt ≤ 61) : (t &&& (((1 : Int64) <<< (i &&& 0x3f).toInt64) - (1 : Int64))) = (if i = (0 : Int32) then (0 : Int64) else (((t <<< (((64 : Int32) - i) &&& 0x3f).toInt64).toUInt64 >>> (((64 : Int32) - i) &&& 0x3f).toInt64.toUInt64).toInt64)) := by
  by_cases q : i = (0 : Int32)
  · rw [if_pos q]
    subst q
    have e : (((1 : Int64) <<< ((0 : Int32) &&& 0x3f).toInt64) - (1 : Int64)) = 0 := by decide
    rw [e, Int64.and_zero]
  · rw [if_neg q]
    have z : ¬ i.toInt = 0 := fun e => q (Int32.toInt_inj.mp (by rw [e]; decide))
    have n1 := own_nat i h.1
    have l64 : (64 : Int32).toInt = 64 := by decide
    have c := c_isub (64 : Int32) i
    have r := rng32 ((64 : Int32) - i)
    have n2 := own_nat ((64 : Int32) - i) (by omega)
    have hk : i.toBitVec.toNat % 64 = i.toBitVec.toNat := by omega
    have hm : ((64 : Int32) - i).toBitVec.toNat % 64 = 64 - i.toBitVec.toNat := by omega
    have kl : i.toBitVec.toNat < 64 := by omega
    apply Int64.toBitVec_inj.mp
    rw [own_shr _ _ _ hm, own_shl _ _ _ hm]
    show t.toBitVec &&& (((1 : Int64) <<< (i &&& 0x3f).toInt64).toBitVec - (1 : Int64).toBitVec) = _
    rw [own_shl _ _ _ hk]
    apply BitVec.eq_of_getLsbD_eq
    intro j hj
    rw [BitVec.getLsbD_and, own_mbit _ _ kl, BitVec.getLsbD_ushiftRight, BitVec.getLsbD_shiftLeft]
    generalize i.toBitVec.toNat = k at *
    by_cases g : j < k
    · have g2 : 64 - k + j < 64 := by omega
      simp [g, g2]
    · have g2 : ¬ 64 - k + j < 64 := by omega
      simp [g, g2]
theorem own_lft (t : Int64) (i : Int32) (h : 0 ≤ i.toInt ∧ i.toInt ≤ 61) : own_left t i = (if (0 : Int32) < i then (if (((t.toUInt64 >>> ((i - (1 : Int32)) &&& 0x3f).toInt64.toUInt64).toInt64) &&& (1 : Int64)) = (1 : Int64) then (1 : Int32) else (0 : Int32)) else (0 : Int32)) := by
  unfold own_left
  by_cases q : (0 : Int32) < i
  · rw [if_pos q, if_pos q]
    have z := Int32.lt_iff_toInt_lt.mp q
    have l0 : (0 : Int32).toInt = 0 := by decide
    have l1 : (1 : Int32).toInt = 1 := by decide
    have n1 := own_nat i h.1
    have c := c_isub i (1 : Int32)
    have r := rng32 (i - (1 : Int32))
    have n2 := own_nat (i - (1 : Int32)) (by omega)
    have hk : i.toBitVec.toNat % 64 = i.toBitVec.toNat := by omega
    have hm : (i - (1 : Int32)).toBitVec.toNat % 64 = i.toBitVec.toNat - 1 := by omega
    have kl : i.toBitVec.toNat < 64 := by omega
    have k0 : 0 < i.toBitVec.toNat := by omega
    have A : (((t &&& (((1 : Int64) <<< (i &&& 0x3f).toInt64) - (1 : Int64))) &&& ((1 : Int64) <<< ((i - (1 : Int32)) &&& 0x3f).toInt64)) = (0 : Int64)) ↔ t.toBitVec.getLsbD (i.toBitVec.toNat - 1) = false := by
      rw [← Int64.toBitVec_inj]
      show ((t.toBitVec &&& (((1 : Int64) <<< (i &&& 0x3f).toInt64).toBitVec - (1 : Int64).toBitVec)) &&& ((1 : Int64) <<< ((i - (1 : Int32)) &&& 0x3f).toInt64).toBitVec) = (0 : Int64).toBitVec ↔ _
      rw [own_shl _ _ _ hk, own_shl _ _ _ hm]
      constructor
      · intro e
        have e2 := congrArg (fun b => BitVec.getLsbD b (i.toBitVec.toNat - 1)) e
        simp only [BitVec.getLsbD_and, own_mbit _ _ kl, own_obit (i.toBitVec.toNat - 1) _ (by omega)] at e2
        have g : i.toBitVec.toNat - 1 < i.toBitVec.toNat := by omega
        have z0 : (0 : Int64).toBitVec = 0#64 := by decide
        rw [z0] at e2
        simpa [g] using e2
      · intro e
        apply BitVec.eq_of_getLsbD_eq
        intro j hj
        have z0 : (0 : Int64).toBitVec = 0#64 := by decide
        rw [BitVec.getLsbD_and, BitVec.getLsbD_and, own_mbit _ _ kl, own_obit (i.toBitVec.toNat - 1) _ (by omega), z0]
        by_cases g : j = i.toBitVec.toNat - 1
        · subst g; simp [e]
        · simp [g]
    have B : ((((t.toUInt64 >>> ((i - (1 : Int32)) &&& 0x3f).toInt64.toUInt64).toInt64) &&& (1 : Int64)) = (1 : Int64)) ↔ t.toBitVec.getLsbD (i.toBitVec.toNat - 1) = true := by
      rw [← Int64.toBitVec_inj]
      show (((t.toUInt64 >>> ((i - (1 : Int32)) &&& 0x3f).toInt64.toUInt64).toInt64).toBitVec &&& (1 : Int64).toBitVec) = (1 : Int64).toBitVec ↔ _
      rw [own_shr _ _ _ hm]
      have o1 : (1 : Int64).toBitVec = (1 : Int64).toBitVec <<< 0 := by decide
      constructor
      · intro e
        have e2 := congrArg (fun b => BitVec.getLsbD b 0) e
        rw [o1] at e2
        simp only [BitVec.getLsbD_and, own_obit 0 _ (by omega), BitVec.getLsbD_ushiftRight] at e2
        simpa using e2
      · intro e
        apply BitVec.eq_of_getLsbD_eq
        intro j hj
        rw [o1, BitVec.getLsbD_and, own_obit 0 _ (by omega), BitVec.getLsbD_ushiftRight]
        by_cases g : j = 0
        · subst g; simp [e]
        · simp [g]
    cases hb : t.toBitVec.getLsbD (i.toBitVec.toNat - 1)
    · rw [if_pos (A.mpr hb), if_neg (fun e => by rw [B.mp e] at hb; cases hb)]
    · rw [if_neg (fun e => by rw [A.mp e] at hb; cases hb), if_pos (B.mpr hb)]
  · rw [if_neg q, if_neg q]
theorem pn_0 : plainName "com/example/carmine/carmine/WalkEndAtPinLaw" = true := by first | (simp [plainName, overriddenIn]; done) | decide +kernel
theorem pd0_0 : parseMethodDescriptor "(IZ)V" = some ⟨[.int, .boolean], none⟩ := by decide +kernel
theorem pd0_1 : parseMethodDescriptor "(I)V" = some ⟨[.int], none⟩ := by decide +kernel
theorem ef_0 (m : MethodId) (p1 : Int32) (p2 : Int32) (p3 : Int64) (p5 : Int32) (p6 : Int32) (p7 : Int32) : entryFrame m #[(.int p1), (.int p2), (.long p3), (.int p5), (.int p6), (.int p7)] maxLocals = mkF m 0 #[.val (.int p1), .val (.int p2), .val (.long p3), .second, .val (.int p5), .val (.int p6), .val (.int p7), .unset, .unset, .unset, .unset, .unset, .unset, .unset, .unset, .unset, .unset, .unset] [] := by first | (simp [entryFrame, mkF, argsToLocals, Value.category, maxLocals]; done) | rfl
def Q0 (Z : State) (p1 : Int32) (p2 : Int32) (p3 : Int64) (p5 : Int32) (p6 : Int32) (p7 : Int32) (h0 : Heap) (n0 : Nat) (v : Option Value) (h : Heap) (L : List Loc) : Prop := v = some (.int (1 : Int32)) ∧ Fr n0 L
set_option maxRecDepth 65536 in
set_option maxHeartbeats 40000000 in
theorem rm0 (l : Launch) (Z : State) (a0 : Array Value) (hw : ∀ d ∈ tables_1, d.before a0 Z = true) (ws : List Jvm.Cond) (p1 : Int32) (p2 : Int32) (p3 : Int64) (p5 : Int32) (p6 : Int32) (p7 : Int32) (h0 : Heap) (n0 : Nat) (Z0 : n0 ≤ h0.size) (O0 : Old Z n0 h0) :
    MetFree l x (head1 (Jvm.Cond.code x code maxLocals ret :: ws) room_1) (fun a U => a = #[(.int p1), (.int p2), (.long p3), (.int p5), (.int p6), (.int p7)] ∧ Z.Warmed39 U.vm ∧ U.heap = h0) (fun _ _ _ _ _ => True) (fun _ U o U' => ∃ v L, o = .returned v ∧ Q0 Z p1 p2 p3 p5 p6 p7 h0 n0 v U'.heap L ∧ FrameEnd U o U' L 16 256) := by
  refine MetFree.of_bodySF (plainFor_of_name pn_0) hisR ?_
  intro p e s m args below meth c s₁ Bd hml0 hP hK
  obtain ⟨rfl, hZ, hh⟩ := hP
  have hx := Bd.exec
  have hby := Bd.bytes
  have hml : c.maxLocals = 18 := hml0
  have hown : s.vm.findClass "com/example/carmine/carmine/WalkEndAtPinLaw" = some m.cls := findClass_of_methodNamed Bd.named
  have hnm := (name_of_methodNamed Bd.named Bd.method).1
  have X0 : Stand p l e room_1 s m #[(.int p1), (.int p2), (.long p3), (.int p5), (.int p6), (.int p7)] below meth c s₁ [] 0 0 := Stand.of_body Bd
  have e0 : s₁.heap = h0 := by rw [← hh, Bd.state]; rfl
  have N0 := Fr.nil n0
  refine goB (ef_0 m p1 p2 p3 p5 p6 p7) ?_
  show Go p.tables e below s₁ (mkF m 0 #[.val (.int p1), .val (.int p2), .val (.long p3), .second, .val (.int p5), .val (.int p6), .val (.int p7), .unset, .unset, .unset, .unset, .unset, .unset, .unset, .unset, .unset, .unset, .unset] []) _
  refine go1 (fun _ => XS.iload X0.here hx rfl (hb hby at_0) rfl) ?_
  show Go p.tables e below s₁ (mkF m 2 #[.val (.int p1), .val (.int p2), .val (.long p3), .second, .val (.int p5), .val (.int p6), .val (.int p7), .unset, .unset, .unset, .unset, .unset, .unset, .unset, .unset, .unset, .unset, .unset] [(.int p5)]) _
  refine go1 (fun _ => XS.iconst X0.here hx rfl (hb hby at_2)) ?_
  show Go p.tables e below s₁ (mkF m 3 #[.val (.int p1), .val (.int p2), .val (.long p3), .second, .val (.int p5), .val (.int p6), .val (.int p7), .unset, .unset, .unset, .unset, .unset, .unset, .unset, .unset, .unset, .unset, .unset] [(.int (1 : Int32)), (.int p5)]) _
  refine go1 (fun _ => XS.iand X0.here hx rfl (hb hby at_3) rfl) ?_
  show Go p.tables e below s₁ (mkF m 4 #[.val (.int p1), .val (.int p2), .val (.long p3), .second, .val (.int p5), .val (.int p6), .val (.int p7), .unset, .unset, .unset, .unset, .unset, .unset, .unset, .unset, .unset, .unset, .unset] [(.int (p5 &&& (1 : Int32)))]) _
  refine go1 (T' := s₁) (g' := (mkF m 12 #[.val (.int p1), .val (.int p2), .val (.long p3), .second, .val (.int p5), .val (.int p6), .val (.int p7), .unset, .unset, .unset, .unset, .unset, .unset, .unset, .unset, .unset, .unset, .unset] [(.int (if (p5 &&& (1 : Int32)) = (0 : Int32) then (0 : Int32) else (1 : Int32)))])) (fun t k => ?_) ?_
  · by_cases hd1 : (p5 &&& (1 : Int32)) = (0 : Int32)
    · skip
      rw [(if_pos hd1 : (if (p5 &&& (1 : Int32)) = (0 : Int32) then (0 : Int32) else (1 : Int32)) = (0 : Int32))] at k
      show Steps p.tables e below (s₁.setTop (mkF m 4 #[.val (.int p1), .val (.int p2), .val (.long p3), .second, .val (.int p5), .val (.int p6), .val (.int p7), .unset, .unset, .unset, .unset, .unset, .unset, .unset, .unset, .unset, .unset, .unset] [(.int (p5 &&& (1 : Int32)))])) _
      refine XS.ifYes X0.here hx rfl (pc0 := 4) (pc' := 11) rfl (hb hby at_4) rfl ((if0 _ _).trans (teq hd1).1) (by decide) (by decide) ?_
      show Steps p.tables e below (s₁.setTop (mkF m 11 #[.val (.int p1), .val (.int p2), .val (.long p3), .second, .val (.int p5), .val (.int p6), .val (.int p7), .unset, .unset, .unset, .unset, .unset, .unset, .unset, .unset, .unset, .unset, .unset] [])) _
      refine XS.iconst X0.here hx rfl (hb hby at_11) ?_
      show Steps p.tables e below (s₁.setTop (mkF m 12 #[.val (.int p1), .val (.int p2), .val (.long p3), .second, .val (.int p5), .val (.int p6), .val (.int p7), .unset, .unset, .unset, .unset, .unset, .unset, .unset, .unset, .unset, .unset, .unset] [(.int (0 : Int32))])) _
      exact k
    · skip
      rw [(if_neg hd1 : (if (p5 &&& (1 : Int32)) = (0 : Int32) then (0 : Int32) else (1 : Int32)) = (1 : Int32))] at k
      show Steps p.tables e below (s₁.setTop (mkF m 4 #[.val (.int p1), .val (.int p2), .val (.long p3), .second, .val (.int p5), .val (.int p6), .val (.int p7), .unset, .unset, .unset, .unset, .unset, .unset, .unset, .unset, .unset, .unset, .unset] [(.int (p5 &&& (1 : Int32)))])) _
      refine XS.ifNo X0.here hx rfl (hb hby at_4) rfl ((if0 _ _).trans (feq hd1).1) ?_
      show Steps p.tables e below (s₁.setTop (mkF m 7 #[.val (.int p1), .val (.int p2), .val (.long p3), .second, .val (.int p5), .val (.int p6), .val (.int p7), .unset, .unset, .unset, .unset, .unset, .unset, .unset, .unset, .unset, .unset, .unset] [])) _
      refine XS.iconst X0.here hx rfl (hb hby at_7) ?_
      show Steps p.tables e below (s₁.setTop (mkF m 8 #[.val (.int p1), .val (.int p2), .val (.long p3), .second, .val (.int p5), .val (.int p6), .val (.int p7), .unset, .unset, .unset, .unset, .unset, .unset, .unset, .unset, .unset, .unset, .unset] [(.int (1 : Int32))])) _
      refine XS.goto X0.here hx rfl (pc0 := 8) (pc' := 12) rfl (hb hby at_8) (by decide) (by decide) ?_
      show Steps p.tables e below (s₁.setTop (mkF m 12 #[.val (.int p1), .val (.int p2), .val (.long p3), .second, .val (.int p5), .val (.int p6), .val (.int p7), .unset, .unset, .unset, .unset, .unset, .unset, .unset, .unset, .unset, .unset, .unset] [(.int (1 : Int32))])) _
      exact k
  show Go p.tables e below s₁ (mkF m 12 #[.val (.int p1), .val (.int p2), .val (.long p3), .second, .val (.int p5), .val (.int p6), .val (.int p7), .unset, .unset, .unset, .unset, .unset, .unset, .unset, .unset, .unset, .unset, .unset] [(.int (if (p5 &&& (1 : Int32)) = (0 : Int32) then (0 : Int32) else (1 : Int32)))]) _
  obtain ⟨z2, hz2⟩ : ∃ z : Int32, z = (if (p5 &&& (1 : Int32)) = (0 : Int32) then (0 : Int32) else (1 : Int32)) := ⟨_, rfl⟩
  rw [← hz2]
  show Go p.tables e below s₁ (mkF m 12 #[.val (.int p1), .val (.int p2), .val (.long p3), .second, .val (.int p5), .val (.int p6), .val (.int p7), .unset, .unset, .unset, .unset, .unset, .unset, .unset, .unset, .unset, .unset, .unset] [(.int z2)]) _
  refine go1 (fun _ => XS.istore X0.here hx rfl (hb hby at_12) rfl (l' := #[.val (.int p1), .val (.int p2), .val (.long p3), .second, .val (.int p5), .val (.int p6), .val (.int p7), .val (.int z2), .unset, .unset, .unset, .unset, .unset, .unset, .unset, .unset, .unset, .unset]) rfl) ?_
  show Go p.tables e below s₁ (mkF m 14 #[.val (.int p1), .val (.int p2), .val (.long p3), .second, .val (.int p5), .val (.int p6), .val (.int p7), .val (.int z2), .unset, .unset, .unset, .unset, .unset, .unset, .unset, .unset, .unset, .unset] []) _
  refine go1 (fun _ => XS.iloadN X0.here hx rfl (hb hby at_14) rfl) ?_
  show Go p.tables e below s₁ (mkF m 15 #[.val (.int p1), .val (.int p2), .val (.long p3), .second, .val (.int p5), .val (.int p6), .val (.int p7), .val (.int z2), .unset, .unset, .unset, .unset, .unset, .unset, .unset, .unset, .unset, .unset] [(.int p1)]) _
  refine go1 (X0.ldcInt hx hown (mvT hZ (hw _ (List.mem_of_getElem? (i := 0) rfl))) (g := (mkF m 15 #[.val (.int p1), .val (.int p2), .val (.long p3), .second, .val (.int p5), .val (.int p6), .val (.int p7), .val (.int z2), .unset, .unset, .unset, .unset, .unset, .unset, .unset, .unset, .unset, .unset] [(.int p1)])) rfl (hb hby at_15)) ?_
  show Go p.tables e below s₁ (mkF m 17 #[.val (.int p1), .val (.int p2), .val (.long p3), .second, .val (.int p5), .val (.int p6), .val (.int p7), .val (.int z2), .unset, .unset, .unset, .unset, .unset, .unset, .unset, .unset, .unset, .unset] [(.int (1073741823 : Int32)), (.int p1)]) _
  refine go1 (fun _ => XS.iand X0.here hx rfl (hb hby at_17) rfl) ?_
  show Go p.tables e below s₁ (mkF m 18 #[.val (.int p1), .val (.int p2), .val (.long p3), .second, .val (.int p5), .val (.int p6), .val (.int p7), .val (.int z2), .unset, .unset, .unset, .unset, .unset, .unset, .unset, .unset, .unset, .unset] [(.int (p1 &&& (1073741823 : Int32)))]) _
  refine go1 (fun _ => XS.istore X0.here hx rfl (hb hby at_18) rfl (l' := #[.val (.int p1), .val (.int p2), .val (.long p3), .second, .val (.int p5), .val (.int p6), .val (.int p7), .val (.int z2), .val (.int (p1 &&& (1073741823 : Int32))), .unset, .unset, .unset, .unset, .unset, .unset, .unset, .unset, .unset]) rfl) ?_
  show Go p.tables e below s₁ (mkF m 20 #[.val (.int p1), .val (.int p2), .val (.long p3), .second, .val (.int p5), .val (.int p6), .val (.int p7), .val (.int z2), .val (.int (p1 &&& (1073741823 : Int32))), .unset, .unset, .unset, .unset, .unset, .unset, .unset, .unset, .unset] []) _
  obtain ⟨T3, h3, X3, e3, E3, A3, D3, -, st3⟩ := newO X0 hx hZ hown (hw _ (List.mem_of_getElem? (i := 1) rfl)) (hw _ (List.mem_of_getElem? (i := 2) rfl)) (hw _ (List.mem_of_getElem? (i := 3) rfl)) e0 (g := (mkF m 20 #[.val (.int p1), .val (.int p2), .val (.long p3), .second, .val (.int p5), .val (.int p6), .val (.int p7), .val (.int z2), .val (.int (p1 &&& (1073741823 : Int32))), .unset, .unset, .unset, .unset, .unset, .unset, .unset, .unset, .unset] [])) rfl (hb hby at_20) (by decide) (by decide)
  obtain ⟨b3, g3⟩ : ∃ z, z = h0.size := ⟨_, rfl⟩
  rw [← g3] at A3 D3 st3
  have g_b3 : n0 ≤ b3 := Nat.le_trans Z0 (Nat.le_of_eq g3.symm)
  have F_coldSpan_b3 : Fld Z h3 b3 "com/example/carmine/carmine/Walk" "coldSpan" "I" (.int (0 : Int32)) := D3 (Or.inl (hw _ (List.mem_of_getElem? (i := 11) rfl))) (ty := .int) (by decide)
  have F_nodes_b3 : Fld Z h3 b3 "com/example/carmine/carmine/Walk" "nodes" "[Lcom/example/carmine/carmine/Node;" .null := D3 (Or.inr (hw _ (List.mem_of_getElem? (i := 26) rfl))) (ty := (.array (.object "com/example/carmine/carmine/Node"))) (by decide)
  have F_copying_b3 : Fld Z h3 b3 "com/example/carmine/carmine/Walk" "copying" "Z" (.int (0 : Int32)) := D3 (Or.inr (hw _ (List.mem_of_getElem? (i := 28) rfl))) (ty := .boolean) (by decide)
  have F_turns_b3 : Fld Z h3 b3 "com/example/carmine/carmine/Walk" "turns" "J" (.long (0 : Int64)) := D3 (Or.inl (hw _ (List.mem_of_getElem? (i := 32) rfl))) (ty := .long) (by decide)
  have F_depth_b3 : Fld Z h3 b3 "com/example/carmine/carmine/Walk" "depth" "I" (.int (0 : Int32)) := D3 (Or.inl (hw _ (List.mem_of_getElem? (i := 34) rfl))) (ty := .int) (by decide)
  have F_left_b3 : Fld Z h3 b3 "com/example/carmine/carmine/Walk" "left" "Z" (.int (0 : Int32)) := D3 (Or.inl (hw _ (List.mem_of_getElem? (i := 36) rfl))) (ty := .boolean) (by decide)
  have F_valid_b3 : Fld Z h3 b3 "com/example/carmine/carmine/Walk" "valid" "I" (.int (0 : Int32)) := D3 (Or.inl (hw _ (List.mem_of_getElem? (i := 38) rfl))) (ty := .int) (by decide)
  have F_counted_b3 : Fld Z h3 b3 "com/example/carmine/carmine/Walk" "counted" "I" (.int (0 : Int32)) := D3 (Or.inl (hw _ (List.mem_of_getElem? (i := 40) rfl))) (ty := .int) (by decide)
  have F_rotations_b3 : Fld Z h3 b3 "com/example/carmine/carmine/Walk" "rotations" "I" (.int (0 : Int32)) := D3 (Or.inl (hw _ (List.mem_of_getElem? (i := 42) rfl))) (ty := .int) (by decide)
  have F_coldDescents_b3 : Fld Z h3 b3 "com/example/carmine/carmine/Walk" "coldDescents" "I" (.int (0 : Int32)) := D3 (Or.inl (hw _ (List.mem_of_getElem? (i := 44) rfl))) (ty := .int) (by decide)
  refine go1 st3 ?_
  show Go p.tables e below T3 (mkF m 23 #[.val (.int p1), .val (.int p2), .val (.long p3), .second, .val (.int p5), .val (.int p6), .val (.int p7), .val (.int z2), .val (.int (p1 &&& (1073741823 : Int32))), .unset, .unset, .unset, .unset, .unset, .unset, .unset, .unset, .unset] [(.ref b3)]) _
  refine go1 (fun _ => XS.dup X3.here hx rfl (hb hby at_23) rfl rfl) ?_
  show Go p.tables e below T3 (mkF m 24 #[.val (.int p1), .val (.int p2), .val (.long p3), .second, .val (.int p5), .val (.int p6), .val (.int p7), .val (.int z2), .val (.int (p1 &&& (1073741823 : Int32))), .unset, .unset, .unset, .unset, .unset, .unset, .unset, .unset, .unset] [(.ref b3), (.ref b3)]) _
  refine go1 (fun _ => XS.iload X3.here hx rfl (hb hby at_24) rfl) ?_
  show Go p.tables e below T3 (mkF m 26 #[.val (.int p1), .val (.int p2), .val (.long p3), .second, .val (.int p5), .val (.int p6), .val (.int p7), .val (.int z2), .val (.int (p1 &&& (1073741823 : Int32))), .unset, .unset, .unset, .unset, .unset, .unset, .unset, .unset, .unset] [(.int (p1 &&& (1073741823 : Int32))), (.ref b3), (.ref b3)]) _
  refine go1 (fun _ => XS.iload X3.here hx rfl (hb hby at_26) rfl) ?_
  show Go p.tables e below T3 (mkF m 28 #[.val (.int p1), .val (.int p2), .val (.long p3), .second, .val (.int p5), .val (.int p6), .val (.int p7), .val (.int z2), .val (.int (p1 &&& (1073741823 : Int32))), .unset, .unset, .unset, .unset, .unset, .unset, .unset, .unset, .unset] [(.int z2), (.int (p1 &&& (1073741823 : Int32))), (.ref b3), (.ref b3)]) _
  obtain ⟨_, _, ⟨T4, L4, k4, n4⟩, -, X4, ⟨Lc4, hQ4, l4, y4, z4⟩, st4⟩ := X3.specialBack hx (y := (⟨"com/example/carmine/carmine/Walk", "<init>", "(IZ)V"⟩ : MethodName)) rfl hown (mvT hZ (hw _ (List.mem_of_getElem? (i := 4) rfl))) (mvT hZ (hw _ (List.mem_of_getElem? (i := 5) rfl))) (mvT hZ (hw _ (List.mem_of_getElem? (i := 6) rfl))) (by decide) (backOf (W := 1) (rm1 l Z a0 hw [] b3 (p1 &&& (1073741823 : Int32)) z2 h3 n0 (Nat.le_trans Z0 E3.1) F_nodes_b3 F_copying_b3 F_coldSpan_b3 F_turns_b3 F_depth_b3 F_left_b3 F_valid_b3 F_counted_b3 F_rotations_b3 F_coldDescents_b3 A3 g_b3 (own_sz p1).1 (own_sz p1).2) hZ (hw _ (List.mem_of_getElem? (i := 6) rfl)) (hw _ (List.mem_of_getElem? (i := 3) rfl)) (by decide) (by decide)) (g := (mkF m 28 #[.val (.int p1), .val (.int p2), .val (.long p3), .second, .val (.int p5), .val (.int p6), .val (.int p7), .val (.int z2), .val (.int (p1 &&& (1073741823 : Int32))), .unset, .unset, .unset, .unset, .unset, .unset, .unset, .unset, .unset] [(.int z2), (.int (p1 &&& (1073741823 : Int32))), (.ref b3), (.ref b3)])) rfl (by rw [hml]; rfl) (Steps.refl _) (a := b3) (argsL := [(.int (p1 &&& (1073741823 : Int32))), (.int z2)]) (rest := [(.ref b3)]) (lenOf pd0_0 rfl) rfl (by show 2 * 0 + _ ≤ _; exact Nat.le_of_eq rfl) (hb hby at_28) (fun _ _ => ⟨rfl, e3, (by decide : 1 + 1 ≤ _), (by decide : 10 + 62 ≤ _)⟩)
  dsimp only [Pt.U, Pt.locs, Pt.cells, Pt.slots] at X4 l4 y4 z4 st4 hQ4
  subst l4 y4 z4
  obtain ⟨nb5, k6, y7, rfl, N4q, K4, G4_0, G4_1, G4_2, G4_3, G4_4, G4_5, G4_6, G4_7, G4_8, G4_9, G4_10, G4_11, G4_12, G4_13, G4_14, G4_15, G4_16, G4_17⟩ := hQ4
  have N4 := Fr.app N0 N4q
  refine goT st4 ?_
  show Go p.tables e below T4 (mkF m 31 #[.val (.int p1), .val (.int p2), .val (.long p3), .second, .val (.int p5), .val (.int p6), .val (.int p7), .val (.int z2), .val (.int (p1 &&& (1073741823 : Int32))), .unset, .unset, .unset, .unset, .unset, .unset, .unset, .unset, .unset] [(.ref b3)]) _
  refine go1 (fun _ => XS.astore X4.here hx rfl (hb hby at_31) rfl rfl (l' := #[.val (.int p1), .val (.int p2), .val (.long p3), .second, .val (.int p5), .val (.int p6), .val (.int p7), .val (.int z2), .val (.int (p1 &&& (1073741823 : Int32))), .val (.ref b3), .unset, .unset, .unset, .unset, .unset, .unset, .unset, .unset]) rfl) ?_
  show Go p.tables e below T4 (mkF m 33 #[.val (.int p1), .val (.int p2), .val (.long p3), .second, .val (.int p5), .val (.int p6), .val (.int p7), .val (.int z2), .val (.int (p1 &&& (1073741823 : Int32))), .val (.ref b3), .unset, .unset, .unset, .unset, .unset, .unset, .unset, .unset] []) _
  refine go1 (fun _ => XS.aload X4.here hx rfl (hb hby at_33) rfl rfl) ?_
  show Go p.tables e below T4 (mkF m 35 #[.val (.int p1), .val (.int p2), .val (.long p3), .second, .val (.int p5), .val (.int p6), .val (.int p7), .val (.int z2), .val (.int (p1 &&& (1073741823 : Int32))), .val (.ref b3), .unset, .unset, .unset, .unset, .unset, .unset, .unset, .unset] [(.ref b3)]) _
  obtain ⟨T8, X8, e8, st8⟩ := getF X4 hx hZ hown (host := "") (Or.inl (hw _ (List.mem_of_getElem? (i := 29) rfl))) Via.refl rfl G4_1 (g := (mkF m 35 #[.val (.int p1), .val (.int p2), .val (.long p3), .second, .val (.int p5), .val (.int p6), .val (.int p7), .val (.int z2), .val (.int (p1 &&& (1073741823 : Int32))), .val (.ref b3), .unset, .unset, .unset, .unset, .unset, .unset, .unset, .unset] [(.ref b3)])) rfl rfl (hb hby at_35)
  refine go1 st8 ?_
  show Go p.tables e below T8 (mkF m 38 #[.val (.int p1), .val (.int p2), .val (.long p3), .second, .val (.int p5), .val (.int p6), .val (.int p7), .val (.int z2), .val (.int (p1 &&& (1073741823 : Int32))), .val (.ref b3), .unset, .unset, .unset, .unset, .unset, .unset, .unset, .unset] [(.ref nb5)]) _
  refine go1 (fun _ => XS.astore X8.here hx rfl (hb hby at_38) rfl rfl (l' := #[.val (.int p1), .val (.int p2), .val (.long p3), .second, .val (.int p5), .val (.int p6), .val (.int p7), .val (.int z2), .val (.int (p1 &&& (1073741823 : Int32))), .val (.ref b3), .val (.ref nb5), .unset, .unset, .unset, .unset, .unset, .unset, .unset]) rfl) ?_
  show Go p.tables e below T8 (mkF m 40 #[.val (.int p1), .val (.int p2), .val (.long p3), .second, .val (.int p5), .val (.int p6), .val (.int p7), .val (.int z2), .val (.int (p1 &&& (1073741823 : Int32))), .val (.ref b3), .val (.ref nb5), .unset, .unset, .unset, .unset, .unset, .unset, .unset] []) _
  refine go1 (fun _ => XS.aload X8.here hx rfl (hb hby at_40) rfl rfl) ?_
  show Go p.tables e below T8 (mkF m 42 #[.val (.int p1), .val (.int p2), .val (.long p3), .second, .val (.int p5), .val (.int p6), .val (.int p7), .val (.int z2), .val (.int (p1 &&& (1073741823 : Int32))), .val (.ref b3), .val (.ref nb5), .unset, .unset, .unset, .unset, .unset, .unset, .unset] [(.ref nb5)]) _
  have vo9 := G4_4
  obtain ⟨cl9, Ar9, -, S9, M9, -, -⟩ := vo9
  refine go1 (T' := T8) (g' := (mkF m 43 #[.val (.int p1), .val (.int p2), .val (.long p3), .second, .val (.int p5), .val (.int p6), .val (.int p7), .val (.int z2), .val (.int (p1 &&& (1073741823 : Int32))), .val (.ref b3), .val (.ref nb5), .unset, .unset, .unset, .unset, .unset, .unset, .unset] [(.int y7)])) (fun t k => ?_) ?_
  · refine X8.arraylength hx (by rw [e8]; exact Ar9.1) (State.isArrayOf_alike hZ.alike Ar9.2.1) (g := (mkF m 42 #[.val (.int p1), .val (.int p2), .val (.long p3), .second, .val (.int p5), .val (.int p6), .val (.int p7), .val (.int z2), .val (.int (p1 &&& (1073741823 : Int32))), .val (.ref b3), .val (.ref nb5), .unset, .unset, .unset, .unset, .unset, .unset, .unset] [(.ref nb5)])) rfl rfl (hb hby at_42) _ ?_
    rw [len_of S9 M9]
    exact k
  show Go p.tables e below T8 (mkF m 43 #[.val (.int p1), .val (.int p2), .val (.long p3), .second, .val (.int p5), .val (.int p6), .val (.int p7), .val (.int z2), .val (.int (p1 &&& (1073741823 : Int32))), .val (.ref b3), .val (.ref nb5), .unset, .unset, .unset, .unset, .unset, .unset, .unset] [(.int y7)]) _
  refine go1 (fun _ => XS.istore X8.here hx rfl (hb hby at_43) rfl (l' := #[.val (.int p1), .val (.int p2), .val (.long p3), .second, .val (.int p5), .val (.int p6), .val (.int p7), .val (.int z2), .val (.int (p1 &&& (1073741823 : Int32))), .val (.ref b3), .val (.ref nb5), .val (.int y7), .unset, .unset, .unset, .unset, .unset, .unset]) rfl) ?_
  show Go p.tables e below T8 (mkF m 45 #[.val (.int p1), .val (.int p2), .val (.long p3), .second, .val (.int p5), .val (.int p6), .val (.int p7), .val (.int z2), .val (.int (p1 &&& (1073741823 : Int32))), .val (.ref b3), .val (.ref nb5), .val (.int y7), .unset, .unset, .unset, .unset, .unset, .unset] []) _
  refine go1 (fun _ => XS.iload X8.here hx rfl (hb hby at_45) rfl) ?_
  show Go p.tables e below T8 (mkF m 47 #[.val (.int p1), .val (.int p2), .val (.long p3), .second, .val (.int p5), .val (.int p6), .val (.int p7), .val (.int z2), .val (.int (p1 &&& (1073741823 : Int32))), .val (.ref b3), .val (.ref nb5), .val (.int y7), .unset, .unset, .unset, .unset, .unset, .unset] [(.int y7)]) _
  refine go1 (fun _ => XS.ifYes X8.here hx rfl (pc0 := 47) (pc' := 52) rfl (hb hby at_47) rfl ((if0 _ _).trans (tlt G4_14).2.2.1) (by decide) (by decide)) ?_
  show Go p.tables e below T8 (mkF m 52 #[.val (.int p1), .val (.int p2), .val (.long p3), .second, .val (.int p5), .val (.int p6), .val (.int p7), .val (.int z2), .val (.int (p1 &&& (1073741823 : Int32))), .val (.ref b3), .val (.ref nb5), .val (.int y7), .unset, .unset, .unset, .unset, .unset, .unset] []) _
  refine go1 (fun _ => XS.iloadN X8.here hx rfl (hb hby at_52) rfl) ?_
  show Go p.tables e below T8 (mkF m 53 #[.val (.int p1), .val (.int p2), .val (.long p3), .second, .val (.int p5), .val (.int p6), .val (.int p7), .val (.int z2), .val (.int (p1 &&& (1073741823 : Int32))), .val (.ref b3), .val (.ref nb5), .val (.int y7), .unset, .unset, .unset, .unset, .unset, .unset] [(.int p2)]) _
  refine go1 (X8.ldcInt hx hown (mvT hZ (hw _ (List.mem_of_getElem? (i := 30) rfl))) (g := (mkF m 53 #[.val (.int p1), .val (.int p2), .val (.long p3), .second, .val (.int p5), .val (.int p6), .val (.int p7), .val (.int z2), .val (.int (p1 &&& (1073741823 : Int32))), .val (.ref b3), .val (.ref nb5), .val (.int y7), .unset, .unset, .unset, .unset, .unset, .unset] [(.int p2)])) rfl (hb hby at_53)) ?_
  show Go p.tables e below T8 (mkF m 55 #[.val (.int p1), .val (.int p2), .val (.long p3), .second, .val (.int p5), .val (.int p6), .val (.int p7), .val (.int z2), .val (.int (p1 &&& (1073741823 : Int32))), .val (.ref b3), .val (.ref nb5), .val (.int y7), .unset, .unset, .unset, .unset, .unset, .unset] [(.int (2147483647 : Int32)), (.int p2)]) _
  refine go1 (fun _ => XS.iand X8.here hx rfl (hb hby at_55) rfl) ?_
  show Go p.tables e below T8 (mkF m 56 #[.val (.int p1), .val (.int p2), .val (.long p3), .second, .val (.int p5), .val (.int p6), .val (.int p7), .val (.int z2), .val (.int (p1 &&& (1073741823 : Int32))), .val (.ref b3), .val (.ref nb5), .val (.int y7), .unset, .unset, .unset, .unset, .unset, .unset] [(.int (p2 &&& (2147483647 : Int32)))]) _
  refine go1 (fun _ => XS.iload X8.here hx rfl (hb hby at_56) rfl) ?_
  show Go p.tables e below T8 (mkF m 58 #[.val (.int p1), .val (.int p2), .val (.long p3), .second, .val (.int p5), .val (.int p6), .val (.int p7), .val (.int z2), .val (.int (p1 &&& (1073741823 : Int32))), .val (.ref b3), .val (.ref nb5), .val (.int y7), .unset, .unset, .unset, .unset, .unset, .unset] [(.int y7), (.int (p2 &&& (2147483647 : Int32)))]) _
  refine go1 (fun _ => XS.irem X8.here hx rfl (hb hby at_58) rfl (own_nz G4_14)) ?_
  rw [irem_eq_mod (p2 &&& (2147483647 : Int32)) y7]
  show Go p.tables e below T8 (mkF m 59 #[.val (.int p1), .val (.int p2), .val (.long p3), .second, .val (.int p5), .val (.int p6), .val (.int p7), .val (.int z2), .val (.int (p1 &&& (1073741823 : Int32))), .val (.ref b3), .val (.ref nb5), .val (.int y7), .unset, .unset, .unset, .unset, .unset, .unset] [(.int ((p2 &&& (2147483647 : Int32)) % y7))]) _
  refine go1 (fun _ => XS.istore X8.here hx rfl (hb hby at_59) rfl (l' := #[.val (.int p1), .val (.int p2), .val (.long p3), .second, .val (.int p5), .val (.int p6), .val (.int p7), .val (.int z2), .val (.int (p1 &&& (1073741823 : Int32))), .val (.ref b3), .val (.ref nb5), .val (.int y7), .val (.int ((p2 &&& (2147483647 : Int32)) % y7)), .unset, .unset, .unset, .unset, .unset]) rfl) ?_
  show Go p.tables e below T8 (mkF m 61 #[.val (.int p1), .val (.int p2), .val (.long p3), .second, .val (.int p5), .val (.int p6), .val (.int p7), .val (.int z2), .val (.int (p1 &&& (1073741823 : Int32))), .val (.ref b3), .val (.ref nb5), .val (.int y7), .val (.int ((p2 &&& (2147483647 : Int32)) % y7)), .unset, .unset, .unset, .unset, .unset] []) _
  obtain ⟨z10, hz10⟩ : ∃ z : Int32, z = ((p2 &&& (2147483647 : Int32)) % y7) := ⟨_, rfl⟩
  rw [← hz10]
  show Go p.tables e below T8 (mkF m 61 #[.val (.int p1), .val (.int p2), .val (.long p3), .second, .val (.int p5), .val (.int p6), .val (.int p7), .val (.int z2), .val (.int (p1 &&& (1073741823 : Int32))), .val (.ref b3), .val (.ref nb5), .val (.int y7), .val (.int z10), .unset, .unset, .unset, .unset, .unset] []) _
  refine go1 (fun _ => XS.aload X8.here hx rfl (hb hby at_61) rfl rfl) ?_
  show Go p.tables e below T8 (mkF m 63 #[.val (.int p1), .val (.int p2), .val (.long p3), .second, .val (.int p5), .val (.int p6), .val (.int p7), .val (.int z2), .val (.int (p1 &&& (1073741823 : Int32))), .val (.ref b3), .val (.ref nb5), .val (.int y7), .val (.int z10), .unset, .unset, .unset, .unset, .unset] [(.ref b3)]) _
  refine go1 (fun _ => XS.lloadN X8.here hx rfl (hb hby at_63) rfl) ?_
  show Go p.tables e below T8 (mkF m 64 #[.val (.int p1), .val (.int p2), .val (.long p3), .second, .val (.int p5), .val (.int p6), .val (.int p7), .val (.int z2), .val (.int (p1 &&& (1073741823 : Int32))), .val (.ref b3), .val (.ref nb5), .val (.int y7), .val (.int z10), .unset, .unset, .unset, .unset, .unset] [(.long p3), (.ref b3)]) _
  obtain ⟨T11, h11, X11, e11, W11, st11⟩ := putF X8 hx hZ hown (host := "") (Or.inl (hw _ (List.mem_of_getElem? (i := 31) rfl))) Via.refl e8 G4_7 G4_0 (Or.inl (hw _ (List.mem_of_getElem? (i := 32) rfl))) (hw _ (List.mem_of_getElem? (i := 2) rfl)) (ty := .long) (by decide) rfl rfl (g := (mkF m 64 #[.val (.int p1), .val (.int p2), .val (.long p3), .second, .val (.int p5), .val (.int p6), .val (.int p7), .val (.int z2), .val (.int (p1 &&& (1073741823 : Int32))), .val (.ref b3), .val (.ref nb5), .val (.int y7), .val (.int z10), .unset, .unset, .unset, .unset, .unset] [(.long p3), (.ref b3)])) rfl rfl (hb hby at_64)
  refine go1 st11 ?_
  have Fw11 := G4_7.same W11
  have N11 := Fr.snoc X11 N4 g_b3
  show Go p.tables e below T11 (mkF m 67 #[.val (.int p1), .val (.int p2), .val (.long p3), .second, .val (.int p5), .val (.int p6), .val (.int p7), .val (.int z2), .val (.int (p1 &&& (1073741823 : Int32))), .val (.ref b3), .val (.ref nb5), .val (.int y7), .val (.int z10), .unset, .unset, .unset, .unset, .unset] []) _
  refine go1 (fun _ => XS.aload X11.here hx rfl (hb hby at_67) rfl rfl) ?_
  show Go p.tables e below T11 (mkF m 69 #[.val (.int p1), .val (.int p2), .val (.long p3), .second, .val (.int p5), .val (.int p6), .val (.int p7), .val (.int z2), .val (.int (p1 &&& (1073741823 : Int32))), .val (.ref b3), .val (.ref nb5), .val (.int y7), .val (.int z10), .unset, .unset, .unset, .unset, .unset] [(.ref b3)]) _
  refine go1 (fun _ => XS.iload X11.here hx rfl (hb hby at_69) rfl) ?_
  show Go p.tables e below T11 (mkF m 71 #[.val (.int p1), .val (.int p2), .val (.long p3), .second, .val (.int p5), .val (.int p6), .val (.int p7), .val (.int z2), .val (.int (p1 &&& (1073741823 : Int32))), .val (.ref b3), .val (.ref nb5), .val (.int y7), .val (.int z10), .unset, .unset, .unset, .unset, .unset] [(.int p5), (.ref b3)]) _
  refine go1 (fun _ => XS.bipush X11.here hx rfl (hb hby at_71)) ?_
  show Go p.tables e below T11 (mkF m 73 #[.val (.int p1), .val (.int p2), .val (.long p3), .second, .val (.int p5), .val (.int p6), .val (.int p7), .val (.int z2), .val (.int (p1 &&& (1073741823 : Int32))), .val (.ref b3), .val (.ref nb5), .val (.int y7), .val (.int z10), .unset, .unset, .unset, .unset, .unset] [(.int (8 : Int32)), (.int p5), (.ref b3)]) _
  refine go1 (fun _ => XS.iushr X11.here hx rfl (hb hby at_73) rfl) ?_
  show Go p.tables e below T11 (mkF m 74 #[.val (.int p1), .val (.int p2), .val (.long p3), .second, .val (.int p5), .val (.int p6), .val (.int p7), .val (.int z2), .val (.int (p1 &&& (1073741823 : Int32))), .val (.ref b3), .val (.ref nb5), .val (.int y7), .val (.int z10), .unset, .unset, .unset, .unset, .unset] [(.int ((p5.toUInt32 >>> ((8 : Int32) &&& 31).toUInt32).toInt32)), (.ref b3)]) _
  obtain ⟨T12, h12, X12, e12, W12, st12⟩ := putF X11 hx hZ hown (host := "") (Or.inl (hw _ (List.mem_of_getElem? (i := 33) rfl))) Via.refl e11 (G4_8.other W11 (Or.inr (slot_ne (Or.inl (hw _ (List.mem_of_getElem? (i := 34) rfl))) (Or.inl (hw _ (List.mem_of_getElem? (i := 32) rfl))) (by decide) (t := .int) (t' := .long) (by decide) (by decide)))) (G4_0.wr W11) (Or.inl (hw _ (List.mem_of_getElem? (i := 34) rfl))) (hw _ (List.mem_of_getElem? (i := 2) rfl)) (ty := .int) (by decide) rfl rfl (g := (mkF m 74 #[.val (.int p1), .val (.int p2), .val (.long p3), .second, .val (.int p5), .val (.int p6), .val (.int p7), .val (.int z2), .val (.int (p1 &&& (1073741823 : Int32))), .val (.ref b3), .val (.ref nb5), .val (.int y7), .val (.int z10), .unset, .unset, .unset, .unset, .unset] [(.int ((p5.toUInt32 >>> ((8 : Int32) &&& 31).toUInt32).toInt32)), (.ref b3)])) rfl rfl (hb hby at_74)
  refine go1 st12 ?_
  have Fw12 := (G4_8.other W11 (Or.inr (slot_ne (Or.inl (hw _ (List.mem_of_getElem? (i := 34) rfl))) (Or.inl (hw _ (List.mem_of_getElem? (i := 32) rfl))) (by decide) (t := .int) (t' := .long) (by decide) (by decide)))).same W12
  have N12 := Fr.snoc X12 N11 g_b3
  show Go p.tables e below T12 (mkF m 77 #[.val (.int p1), .val (.int p2), .val (.long p3), .second, .val (.int p5), .val (.int p6), .val (.int p7), .val (.int z2), .val (.int (p1 &&& (1073741823 : Int32))), .val (.ref b3), .val (.ref nb5), .val (.int y7), .val (.int z10), .unset, .unset, .unset, .unset, .unset] []) _
  refine go1 (fun _ => XS.aload X12.here hx rfl (hb hby at_77) rfl rfl) ?_
  show Go p.tables e below T12 (mkF m 79 #[.val (.int p1), .val (.int p2), .val (.long p3), .second, .val (.int p5), .val (.int p6), .val (.int p7), .val (.int z2), .val (.int (p1 &&& (1073741823 : Int32))), .val (.ref b3), .val (.ref nb5), .val (.int y7), .val (.int z10), .unset, .unset, .unset, .unset, .unset] [(.ref b3)]) _
  refine go1 (fun _ => XS.iload X12.here hx rfl (hb hby at_79) rfl) ?_
  show Go p.tables e below T12 (mkF m 81 #[.val (.int p1), .val (.int p2), .val (.long p3), .second, .val (.int p5), .val (.int p6), .val (.int p7), .val (.int z2), .val (.int (p1 &&& (1073741823 : Int32))), .val (.ref b3), .val (.ref nb5), .val (.int y7), .val (.int z10), .unset, .unset, .unset, .unset, .unset] [(.int p5), (.ref b3)]) _
  refine go1 (fun _ => XS.iconst X12.here hx rfl (hb hby at_81)) ?_
  show Go p.tables e below T12 (mkF m 82 #[.val (.int p1), .val (.int p2), .val (.long p3), .second, .val (.int p5), .val (.int p6), .val (.int p7), .val (.int z2), .val (.int (p1 &&& (1073741823 : Int32))), .val (.ref b3), .val (.ref nb5), .val (.int y7), .val (.int z10), .unset, .unset, .unset, .unset, .unset] [(.int (2 : Int32)), (.int p5), (.ref b3)]) _
  refine go1 (fun _ => XS.iand X12.here hx rfl (hb hby at_82) rfl) ?_
  show Go p.tables e below T12 (mkF m 83 #[.val (.int p1), .val (.int p2), .val (.long p3), .second, .val (.int p5), .val (.int p6), .val (.int p7), .val (.int z2), .val (.int (p1 &&& (1073741823 : Int32))), .val (.ref b3), .val (.ref nb5), .val (.int y7), .val (.int z10), .unset, .unset, .unset, .unset, .unset] [(.int (p5 &&& (2 : Int32))), (.ref b3)]) _
  refine go1 (T' := T12) (g' := (mkF m 91 #[.val (.int p1), .val (.int p2), .val (.long p3), .second, .val (.int p5), .val (.int p6), .val (.int p7), .val (.int z2), .val (.int (p1 &&& (1073741823 : Int32))), .val (.ref b3), .val (.ref nb5), .val (.int y7), .val (.int z10), .unset, .unset, .unset, .unset, .unset] [(.int (if (p5 &&& (2 : Int32)) = (0 : Int32) then (0 : Int32) else (1 : Int32))), (.ref b3)])) (fun t k => ?_) ?_
  · by_cases hd13 : (p5 &&& (2 : Int32)) = (0 : Int32)
    · skip
      rw [(if_pos hd13 : (if (p5 &&& (2 : Int32)) = (0 : Int32) then (0 : Int32) else (1 : Int32)) = (0 : Int32))] at k
      show Steps p.tables e below (T12.setTop (mkF m 83 #[.val (.int p1), .val (.int p2), .val (.long p3), .second, .val (.int p5), .val (.int p6), .val (.int p7), .val (.int z2), .val (.int (p1 &&& (1073741823 : Int32))), .val (.ref b3), .val (.ref nb5), .val (.int y7), .val (.int z10), .unset, .unset, .unset, .unset, .unset] [(.int (p5 &&& (2 : Int32))), (.ref b3)])) _
      refine XS.ifYes X12.here hx rfl (pc0 := 83) (pc' := 90) rfl (hb hby at_83) rfl ((if0 _ _).trans (teq hd13).1) (by decide) (by decide) ?_
      show Steps p.tables e below (T12.setTop (mkF m 90 #[.val (.int p1), .val (.int p2), .val (.long p3), .second, .val (.int p5), .val (.int p6), .val (.int p7), .val (.int z2), .val (.int (p1 &&& (1073741823 : Int32))), .val (.ref b3), .val (.ref nb5), .val (.int y7), .val (.int z10), .unset, .unset, .unset, .unset, .unset] [(.ref b3)])) _
      refine XS.iconst X12.here hx rfl (hb hby at_90) ?_
      show Steps p.tables e below (T12.setTop (mkF m 91 #[.val (.int p1), .val (.int p2), .val (.long p3), .second, .val (.int p5), .val (.int p6), .val (.int p7), .val (.int z2), .val (.int (p1 &&& (1073741823 : Int32))), .val (.ref b3), .val (.ref nb5), .val (.int y7), .val (.int z10), .unset, .unset, .unset, .unset, .unset] [(.int (0 : Int32)), (.ref b3)])) _
      exact k
    · skip
      rw [(if_neg hd13 : (if (p5 &&& (2 : Int32)) = (0 : Int32) then (0 : Int32) else (1 : Int32)) = (1 : Int32))] at k
      show Steps p.tables e below (T12.setTop (mkF m 83 #[.val (.int p1), .val (.int p2), .val (.long p3), .second, .val (.int p5), .val (.int p6), .val (.int p7), .val (.int z2), .val (.int (p1 &&& (1073741823 : Int32))), .val (.ref b3), .val (.ref nb5), .val (.int y7), .val (.int z10), .unset, .unset, .unset, .unset, .unset] [(.int (p5 &&& (2 : Int32))), (.ref b3)])) _
      refine XS.ifNo X12.here hx rfl (hb hby at_83) rfl ((if0 _ _).trans (feq hd13).1) ?_
      show Steps p.tables e below (T12.setTop (mkF m 86 #[.val (.int p1), .val (.int p2), .val (.long p3), .second, .val (.int p5), .val (.int p6), .val (.int p7), .val (.int z2), .val (.int (p1 &&& (1073741823 : Int32))), .val (.ref b3), .val (.ref nb5), .val (.int y7), .val (.int z10), .unset, .unset, .unset, .unset, .unset] [(.ref b3)])) _
      refine XS.iconst X12.here hx rfl (hb hby at_86) ?_
      show Steps p.tables e below (T12.setTop (mkF m 87 #[.val (.int p1), .val (.int p2), .val (.long p3), .second, .val (.int p5), .val (.int p6), .val (.int p7), .val (.int z2), .val (.int (p1 &&& (1073741823 : Int32))), .val (.ref b3), .val (.ref nb5), .val (.int y7), .val (.int z10), .unset, .unset, .unset, .unset, .unset] [(.int (1 : Int32)), (.ref b3)])) _
      refine XS.goto X12.here hx rfl (pc0 := 87) (pc' := 91) rfl (hb hby at_87) (by decide) (by decide) ?_
      show Steps p.tables e below (T12.setTop (mkF m 91 #[.val (.int p1), .val (.int p2), .val (.long p3), .second, .val (.int p5), .val (.int p6), .val (.int p7), .val (.int z2), .val (.int (p1 &&& (1073741823 : Int32))), .val (.ref b3), .val (.ref nb5), .val (.int y7), .val (.int z10), .unset, .unset, .unset, .unset, .unset] [(.int (1 : Int32)), (.ref b3)])) _
      exact k
  show Go p.tables e below T12 (mkF m 91 #[.val (.int p1), .val (.int p2), .val (.long p3), .second, .val (.int p5), .val (.int p6), .val (.int p7), .val (.int z2), .val (.int (p1 &&& (1073741823 : Int32))), .val (.ref b3), .val (.ref nb5), .val (.int y7), .val (.int z10), .unset, .unset, .unset, .unset, .unset] [(.int (if (p5 &&& (2 : Int32)) = (0 : Int32) then (0 : Int32) else (1 : Int32))), (.ref b3)]) _
  obtain ⟨z14, hz14⟩ : ∃ z : Int32, z = (if (p5 &&& (2 : Int32)) = (0 : Int32) then (0 : Int32) else (1 : Int32)) := ⟨_, rfl⟩
  rw [← hz14]
  show Go p.tables e below T12 (mkF m 91 #[.val (.int p1), .val (.int p2), .val (.long p3), .second, .val (.int p5), .val (.int p6), .val (.int p7), .val (.int z2), .val (.int (p1 &&& (1073741823 : Int32))), .val (.ref b3), .val (.ref nb5), .val (.int y7), .val (.int z10), .unset, .unset, .unset, .unset, .unset] [(.int z14), (.ref b3)]) _
  obtain ⟨T15, h15, X15, e15, W15, st15⟩ := putFN X12 hx hZ hown (hw _ (List.mem_of_getElem? (i := 35) rfl)) Via.refl e12 ((G4_9.other W11 (Or.inr (slot_ne (Or.inl (hw _ (List.mem_of_getElem? (i := 36) rfl))) (Or.inl (hw _ (List.mem_of_getElem? (i := 32) rfl))) (by decide) (t := .boolean) (t' := .long) (by decide) (by decide)))).other W12 (Or.inr (slot_ne (Or.inl (hw _ (List.mem_of_getElem? (i := 36) rfl))) (Or.inl (hw _ (List.mem_of_getElem? (i := 34) rfl))) (by decide) (t := .boolean) (t' := .int) (by decide) (by decide)))) ((G4_0.wr W11).wr W12) (Or.inl (hw _ (List.mem_of_getElem? (i := 36) rfl))) (hw _ (List.mem_of_getElem? (i := 2) rfl)) (ty := .boolean) (v' := (.int (nar .boolean z14))) (by decide) rfl (fits_nar_bool _) (g := (mkF m 91 #[.val (.int p1), .val (.int p2), .val (.long p3), .second, .val (.int p5), .val (.int p6), .val (.int p7), .val (.int z2), .val (.int (p1 &&& (1073741823 : Int32))), .val (.ref b3), .val (.ref nb5), .val (.int y7), .val (.int z10), .unset, .unset, .unset, .unset, .unset] [(.int z14), (.ref b3)])) rfl rfl (hb hby at_91)
  refine go1 st15 ?_
  have Fw15 := ((G4_9.other W11 (Or.inr (slot_ne (Or.inl (hw _ (List.mem_of_getElem? (i := 36) rfl))) (Or.inl (hw _ (List.mem_of_getElem? (i := 32) rfl))) (by decide) (t := .boolean) (t' := .long) (by decide) (by decide)))).other W12 (Or.inr (slot_ne (Or.inl (hw _ (List.mem_of_getElem? (i := 36) rfl))) (Or.inl (hw _ (List.mem_of_getElem? (i := 34) rfl))) (by decide) (t := .boolean) (t' := .int) (by decide) (by decide)))).same W15
  have N15 := Fr.snoc X15 N12 g_b3
  show Go p.tables e below T15 (mkF m 94 #[.val (.int p1), .val (.int p2), .val (.long p3), .second, .val (.int p5), .val (.int p6), .val (.int p7), .val (.int z2), .val (.int (p1 &&& (1073741823 : Int32))), .val (.ref b3), .val (.ref nb5), .val (.int y7), .val (.int z10), .unset, .unset, .unset, .unset, .unset] []) _
  refine go1 (fun _ => XS.aload X15.here hx rfl (hb hby at_94) rfl rfl) ?_
  show Go p.tables e below T15 (mkF m 96 #[.val (.int p1), .val (.int p2), .val (.long p3), .second, .val (.int p5), .val (.int p6), .val (.int p7), .val (.int z2), .val (.int (p1 &&& (1073741823 : Int32))), .val (.ref b3), .val (.ref nb5), .val (.int y7), .val (.int z10), .unset, .unset, .unset, .unset, .unset] [(.ref b3)]) _
  refine go1 (fun _ => XS.iload X15.here hx rfl (hb hby at_96) rfl) ?_
  show Go p.tables e below T15 (mkF m 98 #[.val (.int p1), .val (.int p2), .val (.long p3), .second, .val (.int p5), .val (.int p6), .val (.int p7), .val (.int z2), .val (.int (p1 &&& (1073741823 : Int32))), .val (.ref b3), .val (.ref nb5), .val (.int y7), .val (.int z10), .unset, .unset, .unset, .unset, .unset] [(.int z10), (.ref b3)]) _
  refine go1 (fun _ => XS.iconst X15.here hx rfl (hb hby at_98)) ?_
  show Go p.tables e below T15 (mkF m 99 #[.val (.int p1), .val (.int p2), .val (.long p3), .second, .val (.int p5), .val (.int p6), .val (.int p7), .val (.int z2), .val (.int (p1 &&& (1073741823 : Int32))), .val (.ref b3), .val (.ref nb5), .val (.int y7), .val (.int z10), .unset, .unset, .unset, .unset, .unset] [(.int (1 : Int32)), (.int z10), (.ref b3)]) _
  refine go1 (fun _ => XS.iadd X15.here hx rfl (hb hby at_99) rfl) ?_
  show Go p.tables e below T15 (mkF m 100 #[.val (.int p1), .val (.int p2), .val (.long p3), .second, .val (.int p5), .val (.int p6), .val (.int p7), .val (.int z2), .val (.int (p1 &&& (1073741823 : Int32))), .val (.ref b3), .val (.ref nb5), .val (.int y7), .val (.int z10), .unset, .unset, .unset, .unset, .unset] [(.int (z10 + (1 : Int32))), (.ref b3)]) _
  refine go1 (fun _ => XS.iload X15.here hx rfl (hb hby at_100) rfl) ?_
  show Go p.tables e below T15 (mkF m 102 #[.val (.int p1), .val (.int p2), .val (.long p3), .second, .val (.int p5), .val (.int p6), .val (.int p7), .val (.int z2), .val (.int (p1 &&& (1073741823 : Int32))), .val (.ref b3), .val (.ref nb5), .val (.int y7), .val (.int z10), .unset, .unset, .unset, .unset, .unset] [(.int p5), (.int (z10 + (1 : Int32))), (.ref b3)]) _
  refine go1 (fun _ => XS.iconst X15.here hx rfl (hb hby at_102)) ?_
  show Go p.tables e below T15 (mkF m 103 #[.val (.int p1), .val (.int p2), .val (.long p3), .second, .val (.int p5), .val (.int p6), .val (.int p7), .val (.int z2), .val (.int (p1 &&& (1073741823 : Int32))), .val (.ref b3), .val (.ref nb5), .val (.int y7), .val (.int z10), .unset, .unset, .unset, .unset, .unset] [(.int (2 : Int32)), (.int p5), (.int (z10 + (1 : Int32))), (.ref b3)]) _
  refine go1 (fun _ => XS.iushr X15.here hx rfl (hb hby at_103) rfl) ?_
  show Go p.tables e below T15 (mkF m 104 #[.val (.int p1), .val (.int p2), .val (.long p3), .second, .val (.int p5), .val (.int p6), .val (.int p7), .val (.int z2), .val (.int (p1 &&& (1073741823 : Int32))), .val (.ref b3), .val (.ref nb5), .val (.int y7), .val (.int z10), .unset, .unset, .unset, .unset, .unset] [(.int ((p5.toUInt32 >>> ((2 : Int32) &&& 31).toUInt32).toInt32)), (.int (z10 + (1 : Int32))), (.ref b3)]) _
  refine go1 (fun _ => XS.bipush X15.here hx rfl (hb hby at_104)) ?_
  show Go p.tables e below T15 (mkF m 106 #[.val (.int p1), .val (.int p2), .val (.long p3), .second, .val (.int p5), .val (.int p6), .val (.int p7), .val (.int z2), .val (.int (p1 &&& (1073741823 : Int32))), .val (.ref b3), .val (.ref nb5), .val (.int y7), .val (.int z10), .unset, .unset, .unset, .unset, .unset] [(.int (63 : Int32)), (.int ((p5.toUInt32 >>> ((2 : Int32) &&& 31).toUInt32).toInt32)), (.int (z10 + (1 : Int32))), (.ref b3)]) _
  refine go1 (fun _ => XS.iand X15.here hx rfl (hb hby at_106) rfl) ?_
  show Go p.tables e below T15 (mkF m 107 #[.val (.int p1), .val (.int p2), .val (.long p3), .second, .val (.int p5), .val (.int p6), .val (.int p7), .val (.int z2), .val (.int (p1 &&& (1073741823 : Int32))), .val (.ref b3), .val (.ref nb5), .val (.int y7), .val (.int z10), .unset, .unset, .unset, .unset, .unset] [(.int (((p5.toUInt32 >>> ((2 : Int32) &&& 31).toUInt32).toInt32) &&& (63 : Int32))), (.int (z10 + (1 : Int32))), (.ref b3)]) _
  refine go1 (fun _ => XS.iadd X15.here hx rfl (hb hby at_107) rfl) ?_
  show Go p.tables e below T15 (mkF m 108 #[.val (.int p1), .val (.int p2), .val (.long p3), .second, .val (.int p5), .val (.int p6), .val (.int p7), .val (.int z2), .val (.int (p1 &&& (1073741823 : Int32))), .val (.ref b3), .val (.ref nb5), .val (.int y7), .val (.int z10), .unset, .unset, .unset, .unset, .unset] [(.int ((z10 + (1 : Int32)) + (((p5.toUInt32 >>> ((2 : Int32) &&& 31).toUInt32).toInt32) &&& (63 : Int32)))), (.ref b3)]) _
  obtain ⟨T16, h16, X16, e16, W16, st16⟩ := putF X15 hx hZ hown (host := "") (Or.inl (hw _ (List.mem_of_getElem? (i := 37) rfl))) Via.refl e15 (((G4_10.other W11 (Or.inr (slot_ne (Or.inl (hw _ (List.mem_of_getElem? (i := 38) rfl))) (Or.inl (hw _ (List.mem_of_getElem? (i := 32) rfl))) (by decide) (t := .int) (t' := .long) (by decide) (by decide)))).other W12 (Or.inr (slot_ne (Or.inl (hw _ (List.mem_of_getElem? (i := 38) rfl))) (Or.inl (hw _ (List.mem_of_getElem? (i := 34) rfl))) (by decide) (t := .int) (t' := .int) (by decide) (by decide)))).other W15 (Or.inr (slot_ne (Or.inl (hw _ (List.mem_of_getElem? (i := 38) rfl))) (Or.inl (hw _ (List.mem_of_getElem? (i := 36) rfl))) (by decide) (t := .int) (t' := .boolean) (by decide) (by decide)))) (((G4_0.wr W11).wr W12).wr W15) (Or.inl (hw _ (List.mem_of_getElem? (i := 38) rfl))) (hw _ (List.mem_of_getElem? (i := 2) rfl)) (ty := .int) (by decide) rfl rfl (g := (mkF m 108 #[.val (.int p1), .val (.int p2), .val (.long p3), .second, .val (.int p5), .val (.int p6), .val (.int p7), .val (.int z2), .val (.int (p1 &&& (1073741823 : Int32))), .val (.ref b3), .val (.ref nb5), .val (.int y7), .val (.int z10), .unset, .unset, .unset, .unset, .unset] [(.int ((z10 + (1 : Int32)) + (((p5.toUInt32 >>> ((2 : Int32) &&& 31).toUInt32).toInt32) &&& (63 : Int32)))), (.ref b3)])) rfl rfl (hb hby at_108)
  refine go1 st16 ?_
  have Fw16 := (((G4_10.other W11 (Or.inr (slot_ne (Or.inl (hw _ (List.mem_of_getElem? (i := 38) rfl))) (Or.inl (hw _ (List.mem_of_getElem? (i := 32) rfl))) (by decide) (t := .int) (t' := .long) (by decide) (by decide)))).other W12 (Or.inr (slot_ne (Or.inl (hw _ (List.mem_of_getElem? (i := 38) rfl))) (Or.inl (hw _ (List.mem_of_getElem? (i := 34) rfl))) (by decide) (t := .int) (t' := .int) (by decide) (by decide)))).other W15 (Or.inr (slot_ne (Or.inl (hw _ (List.mem_of_getElem? (i := 38) rfl))) (Or.inl (hw _ (List.mem_of_getElem? (i := 36) rfl))) (by decide) (t := .int) (t' := .boolean) (by decide) (by decide)))).same W16
  have N16 := Fr.snoc X16 N15 g_b3
  show Go p.tables e below T16 (mkF m 111 #[.val (.int p1), .val (.int p2), .val (.long p3), .second, .val (.int p5), .val (.int p6), .val (.int p7), .val (.int z2), .val (.int (p1 &&& (1073741823 : Int32))), .val (.ref b3), .val (.ref nb5), .val (.int y7), .val (.int z10), .unset, .unset, .unset, .unset, .unset] []) _
  refine go1 (fun _ => XS.aload X16.here hx rfl (hb hby at_111) rfl rfl) ?_
  show Go p.tables e below T16 (mkF m 113 #[.val (.int p1), .val (.int p2), .val (.long p3), .second, .val (.int p5), .val (.int p6), .val (.int p7), .val (.int z2), .val (.int (p1 &&& (1073741823 : Int32))), .val (.ref b3), .val (.ref nb5), .val (.int y7), .val (.int z10), .unset, .unset, .unset, .unset, .unset] [(.ref b3)]) _
  refine go1 (fun _ => XS.iload X16.here hx rfl (hb hby at_113) rfl) ?_
  show Go p.tables e below T16 (mkF m 115 #[.val (.int p1), .val (.int p2), .val (.long p3), .second, .val (.int p5), .val (.int p6), .val (.int p7), .val (.int z2), .val (.int (p1 &&& (1073741823 : Int32))), .val (.ref b3), .val (.ref nb5), .val (.int y7), .val (.int z10), .unset, .unset, .unset, .unset, .unset] [(.int p6), (.ref b3)]) _
  obtain ⟨T17, h17, X17, e17, W17, st17⟩ := putF X16 hx hZ hown (host := "") (Or.inl (hw _ (List.mem_of_getElem? (i := 39) rfl))) Via.refl e16 ((((G4_11.other W11 (Or.inr (slot_ne (Or.inl (hw _ (List.mem_of_getElem? (i := 40) rfl))) (Or.inl (hw _ (List.mem_of_getElem? (i := 32) rfl))) (by decide) (t := .int) (t' := .long) (by decide) (by decide)))).other W12 (Or.inr (slot_ne (Or.inl (hw _ (List.mem_of_getElem? (i := 40) rfl))) (Or.inl (hw _ (List.mem_of_getElem? (i := 34) rfl))) (by decide) (t := .int) (t' := .int) (by decide) (by decide)))).other W15 (Or.inr (slot_ne (Or.inl (hw _ (List.mem_of_getElem? (i := 40) rfl))) (Or.inl (hw _ (List.mem_of_getElem? (i := 36) rfl))) (by decide) (t := .int) (t' := .boolean) (by decide) (by decide)))).other W16 (Or.inr (slot_ne (Or.inl (hw _ (List.mem_of_getElem? (i := 40) rfl))) (Or.inl (hw _ (List.mem_of_getElem? (i := 38) rfl))) (by decide) (t := .int) (t' := .int) (by decide) (by decide)))) ((((G4_0.wr W11).wr W12).wr W15).wr W16) (Or.inl (hw _ (List.mem_of_getElem? (i := 40) rfl))) (hw _ (List.mem_of_getElem? (i := 2) rfl)) (ty := .int) (by decide) rfl rfl (g := (mkF m 115 #[.val (.int p1), .val (.int p2), .val (.long p3), .second, .val (.int p5), .val (.int p6), .val (.int p7), .val (.int z2), .val (.int (p1 &&& (1073741823 : Int32))), .val (.ref b3), .val (.ref nb5), .val (.int y7), .val (.int z10), .unset, .unset, .unset, .unset, .unset] [(.int p6), (.ref b3)])) rfl rfl (hb hby at_115)
  refine go1 st17 ?_
  have Fw17 := ((((G4_11.other W11 (Or.inr (slot_ne (Or.inl (hw _ (List.mem_of_getElem? (i := 40) rfl))) (Or.inl (hw _ (List.mem_of_getElem? (i := 32) rfl))) (by decide) (t := .int) (t' := .long) (by decide) (by decide)))).other W12 (Or.inr (slot_ne (Or.inl (hw _ (List.mem_of_getElem? (i := 40) rfl))) (Or.inl (hw _ (List.mem_of_getElem? (i := 34) rfl))) (by decide) (t := .int) (t' := .int) (by decide) (by decide)))).other W15 (Or.inr (slot_ne (Or.inl (hw _ (List.mem_of_getElem? (i := 40) rfl))) (Or.inl (hw _ (List.mem_of_getElem? (i := 36) rfl))) (by decide) (t := .int) (t' := .boolean) (by decide) (by decide)))).other W16 (Or.inr (slot_ne (Or.inl (hw _ (List.mem_of_getElem? (i := 40) rfl))) (Or.inl (hw _ (List.mem_of_getElem? (i := 38) rfl))) (by decide) (t := .int) (t' := .int) (by decide) (by decide)))).same W17
  have N17 := Fr.snoc X17 N16 g_b3
  show Go p.tables e below T17 (mkF m 118 #[.val (.int p1), .val (.int p2), .val (.long p3), .second, .val (.int p5), .val (.int p6), .val (.int p7), .val (.int z2), .val (.int (p1 &&& (1073741823 : Int32))), .val (.ref b3), .val (.ref nb5), .val (.int y7), .val (.int z10), .unset, .unset, .unset, .unset, .unset] []) _
  refine go1 (fun _ => XS.aload X17.here hx rfl (hb hby at_118) rfl rfl) ?_
  show Go p.tables e below T17 (mkF m 120 #[.val (.int p1), .val (.int p2), .val (.long p3), .second, .val (.int p5), .val (.int p6), .val (.int p7), .val (.int z2), .val (.int (p1 &&& (1073741823 : Int32))), .val (.ref b3), .val (.ref nb5), .val (.int y7), .val (.int z10), .unset, .unset, .unset, .unset, .unset] [(.ref b3)]) _
  refine go1 (fun _ => XS.iload X17.here hx rfl (hb hby at_120) rfl) ?_
  show Go p.tables e below T17 (mkF m 122 #[.val (.int p1), .val (.int p2), .val (.long p3), .second, .val (.int p5), .val (.int p6), .val (.int p7), .val (.int z2), .val (.int (p1 &&& (1073741823 : Int32))), .val (.ref b3), .val (.ref nb5), .val (.int y7), .val (.int z10), .unset, .unset, .unset, .unset, .unset] [(.int p7), (.ref b3)]) _
  obtain ⟨T18, h18, X18, e18, W18, st18⟩ := putF X17 hx hZ hown (host := "") (Or.inl (hw _ (List.mem_of_getElem? (i := 41) rfl))) Via.refl e17 (((((G4_12.other W11 (Or.inr (slot_ne (Or.inl (hw _ (List.mem_of_getElem? (i := 42) rfl))) (Or.inl (hw _ (List.mem_of_getElem? (i := 32) rfl))) (by decide) (t := .int) (t' := .long) (by decide) (by decide)))).other W12 (Or.inr (slot_ne (Or.inl (hw _ (List.mem_of_getElem? (i := 42) rfl))) (Or.inl (hw _ (List.mem_of_getElem? (i := 34) rfl))) (by decide) (t := .int) (t' := .int) (by decide) (by decide)))).other W15 (Or.inr (slot_ne (Or.inl (hw _ (List.mem_of_getElem? (i := 42) rfl))) (Or.inl (hw _ (List.mem_of_getElem? (i := 36) rfl))) (by decide) (t := .int) (t' := .boolean) (by decide) (by decide)))).other W16 (Or.inr (slot_ne (Or.inl (hw _ (List.mem_of_getElem? (i := 42) rfl))) (Or.inl (hw _ (List.mem_of_getElem? (i := 38) rfl))) (by decide) (t := .int) (t' := .int) (by decide) (by decide)))).other W17 (Or.inr (slot_ne (Or.inl (hw _ (List.mem_of_getElem? (i := 42) rfl))) (Or.inl (hw _ (List.mem_of_getElem? (i := 40) rfl))) (by decide) (t := .int) (t' := .int) (by decide) (by decide)))) (((((G4_0.wr W11).wr W12).wr W15).wr W16).wr W17) (Or.inl (hw _ (List.mem_of_getElem? (i := 42) rfl))) (hw _ (List.mem_of_getElem? (i := 2) rfl)) (ty := .int) (by decide) rfl rfl (g := (mkF m 122 #[.val (.int p1), .val (.int p2), .val (.long p3), .second, .val (.int p5), .val (.int p6), .val (.int p7), .val (.int z2), .val (.int (p1 &&& (1073741823 : Int32))), .val (.ref b3), .val (.ref nb5), .val (.int y7), .val (.int z10), .unset, .unset, .unset, .unset, .unset] [(.int p7), (.ref b3)])) rfl rfl (hb hby at_122)
  refine go1 st18 ?_
  have Fw18 := (((((G4_12.other W11 (Or.inr (slot_ne (Or.inl (hw _ (List.mem_of_getElem? (i := 42) rfl))) (Or.inl (hw _ (List.mem_of_getElem? (i := 32) rfl))) (by decide) (t := .int) (t' := .long) (by decide) (by decide)))).other W12 (Or.inr (slot_ne (Or.inl (hw _ (List.mem_of_getElem? (i := 42) rfl))) (Or.inl (hw _ (List.mem_of_getElem? (i := 34) rfl))) (by decide) (t := .int) (t' := .int) (by decide) (by decide)))).other W15 (Or.inr (slot_ne (Or.inl (hw _ (List.mem_of_getElem? (i := 42) rfl))) (Or.inl (hw _ (List.mem_of_getElem? (i := 36) rfl))) (by decide) (t := .int) (t' := .boolean) (by decide) (by decide)))).other W16 (Or.inr (slot_ne (Or.inl (hw _ (List.mem_of_getElem? (i := 42) rfl))) (Or.inl (hw _ (List.mem_of_getElem? (i := 38) rfl))) (by decide) (t := .int) (t' := .int) (by decide) (by decide)))).other W17 (Or.inr (slot_ne (Or.inl (hw _ (List.mem_of_getElem? (i := 42) rfl))) (Or.inl (hw _ (List.mem_of_getElem? (i := 40) rfl))) (by decide) (t := .int) (t' := .int) (by decide) (by decide)))).same W18
  have N18 := Fr.snoc X18 N17 g_b3
  show Go p.tables e below T18 (mkF m 125 #[.val (.int p1), .val (.int p2), .val (.long p3), .second, .val (.int p5), .val (.int p6), .val (.int p7), .val (.int z2), .val (.int (p1 &&& (1073741823 : Int32))), .val (.ref b3), .val (.ref nb5), .val (.int y7), .val (.int z10), .unset, .unset, .unset, .unset, .unset] []) _
  refine go1 (fun _ => XS.aload X18.here hx rfl (hb hby at_125) rfl rfl) ?_
  show Go p.tables e below T18 (mkF m 127 #[.val (.int p1), .val (.int p2), .val (.long p3), .second, .val (.int p5), .val (.int p6), .val (.int p7), .val (.int z2), .val (.int (p1 &&& (1073741823 : Int32))), .val (.ref b3), .val (.ref nb5), .val (.int y7), .val (.int z10), .unset, .unset, .unset, .unset, .unset] [(.ref b3)]) _
  refine go1 (fun _ => XS.iload X18.here hx rfl (hb hby at_127) rfl) ?_
  show Go p.tables e below T18 (mkF m 129 #[.val (.int p1), .val (.int p2), .val (.long p3), .second, .val (.int p5), .val (.int p6), .val (.int p7), .val (.int z2), .val (.int (p1 &&& (1073741823 : Int32))), .val (.ref b3), .val (.ref nb5), .val (.int y7), .val (.int z10), .unset, .unset, .unset, .unset, .unset] [(.int p5), (.ref b3)]) _
  refine go1 (fun _ => XS.bipush X18.here hx rfl (hb hby at_129)) ?_
  show Go p.tables e below T18 (mkF m 131 #[.val (.int p1), .val (.int p2), .val (.long p3), .second, .val (.int p5), .val (.int p6), .val (.int p7), .val (.int z2), .val (.int (p1 &&& (1073741823 : Int32))), .val (.ref b3), .val (.ref nb5), .val (.int y7), .val (.int z10), .unset, .unset, .unset, .unset, .unset] [(.int (16 : Int32)), (.int p5), (.ref b3)]) _
  refine go1 (fun _ => XS.iushr X18.here hx rfl (hb hby at_131) rfl) ?_
  show Go p.tables e below T18 (mkF m 132 #[.val (.int p1), .val (.int p2), .val (.long p3), .second, .val (.int p5), .val (.int p6), .val (.int p7), .val (.int z2), .val (.int (p1 &&& (1073741823 : Int32))), .val (.ref b3), .val (.ref nb5), .val (.int y7), .val (.int z10), .unset, .unset, .unset, .unset, .unset] [(.int ((p5.toUInt32 >>> ((16 : Int32) &&& 31).toUInt32).toInt32)), (.ref b3)]) _
  refine go1 (fun _ => XS.bipush X18.here hx rfl (hb hby at_132)) ?_
  show Go p.tables e below T18 (mkF m 134 #[.val (.int p1), .val (.int p2), .val (.long p3), .second, .val (.int p5), .val (.int p6), .val (.int p7), .val (.int z2), .val (.int (p1 &&& (1073741823 : Int32))), .val (.ref b3), .val (.ref nb5), .val (.int y7), .val (.int z10), .unset, .unset, .unset, .unset, .unset] [(.int (15 : Int32)), (.int ((p5.toUInt32 >>> ((16 : Int32) &&& 31).toUInt32).toInt32)), (.ref b3)]) _
  refine go1 (fun _ => XS.iand X18.here hx rfl (hb hby at_134) rfl) ?_
  show Go p.tables e below T18 (mkF m 135 #[.val (.int p1), .val (.int p2), .val (.long p3), .second, .val (.int p5), .val (.int p6), .val (.int p7), .val (.int z2), .val (.int (p1 &&& (1073741823 : Int32))), .val (.ref b3), .val (.ref nb5), .val (.int y7), .val (.int z10), .unset, .unset, .unset, .unset, .unset] [(.int (((p5.toUInt32 >>> ((16 : Int32) &&& 31).toUInt32).toInt32) &&& (15 : Int32))), (.ref b3)]) _
  obtain ⟨T19, h19, X19, e19, W19, st19⟩ := putF X18 hx hZ hown (host := "") (Or.inl (hw _ (List.mem_of_getElem? (i := 43) rfl))) Via.refl e18 ((((((G4_13.other W11 (Or.inr (slot_ne (Or.inl (hw _ (List.mem_of_getElem? (i := 44) rfl))) (Or.inl (hw _ (List.mem_of_getElem? (i := 32) rfl))) (by decide) (t := .int) (t' := .long) (by decide) (by decide)))).other W12 (Or.inr (slot_ne (Or.inl (hw _ (List.mem_of_getElem? (i := 44) rfl))) (Or.inl (hw _ (List.mem_of_getElem? (i := 34) rfl))) (by decide) (t := .int) (t' := .int) (by decide) (by decide)))).other W15 (Or.inr (slot_ne (Or.inl (hw _ (List.mem_of_getElem? (i := 44) rfl))) (Or.inl (hw _ (List.mem_of_getElem? (i := 36) rfl))) (by decide) (t := .int) (t' := .boolean) (by decide) (by decide)))).other W16 (Or.inr (slot_ne (Or.inl (hw _ (List.mem_of_getElem? (i := 44) rfl))) (Or.inl (hw _ (List.mem_of_getElem? (i := 38) rfl))) (by decide) (t := .int) (t' := .int) (by decide) (by decide)))).other W17 (Or.inr (slot_ne (Or.inl (hw _ (List.mem_of_getElem? (i := 44) rfl))) (Or.inl (hw _ (List.mem_of_getElem? (i := 40) rfl))) (by decide) (t := .int) (t' := .int) (by decide) (by decide)))).other W18 (Or.inr (slot_ne (Or.inl (hw _ (List.mem_of_getElem? (i := 44) rfl))) (Or.inl (hw _ (List.mem_of_getElem? (i := 42) rfl))) (by decide) (t := .int) (t' := .int) (by decide) (by decide)))) ((((((G4_0.wr W11).wr W12).wr W15).wr W16).wr W17).wr W18) (Or.inl (hw _ (List.mem_of_getElem? (i := 44) rfl))) (hw _ (List.mem_of_getElem? (i := 2) rfl)) (ty := .int) (by decide) rfl rfl (g := (mkF m 135 #[.val (.int p1), .val (.int p2), .val (.long p3), .second, .val (.int p5), .val (.int p6), .val (.int p7), .val (.int z2), .val (.int (p1 &&& (1073741823 : Int32))), .val (.ref b3), .val (.ref nb5), .val (.int y7), .val (.int z10), .unset, .unset, .unset, .unset, .unset] [(.int (((p5.toUInt32 >>> ((16 : Int32) &&& 31).toUInt32).toInt32) &&& (15 : Int32))), (.ref b3)])) rfl rfl (hb hby at_135)
  refine go1 st19 ?_
  have Fw19 := ((((((G4_13.other W11 (Or.inr (slot_ne (Or.inl (hw _ (List.mem_of_getElem? (i := 44) rfl))) (Or.inl (hw _ (List.mem_of_getElem? (i := 32) rfl))) (by decide) (t := .int) (t' := .long) (by decide) (by decide)))).other W12 (Or.inr (slot_ne (Or.inl (hw _ (List.mem_of_getElem? (i := 44) rfl))) (Or.inl (hw _ (List.mem_of_getElem? (i := 34) rfl))) (by decide) (t := .int) (t' := .int) (by decide) (by decide)))).other W15 (Or.inr (slot_ne (Or.inl (hw _ (List.mem_of_getElem? (i := 44) rfl))) (Or.inl (hw _ (List.mem_of_getElem? (i := 36) rfl))) (by decide) (t := .int) (t' := .boolean) (by decide) (by decide)))).other W16 (Or.inr (slot_ne (Or.inl (hw _ (List.mem_of_getElem? (i := 44) rfl))) (Or.inl (hw _ (List.mem_of_getElem? (i := 38) rfl))) (by decide) (t := .int) (t' := .int) (by decide) (by decide)))).other W17 (Or.inr (slot_ne (Or.inl (hw _ (List.mem_of_getElem? (i := 44) rfl))) (Or.inl (hw _ (List.mem_of_getElem? (i := 40) rfl))) (by decide) (t := .int) (t' := .int) (by decide) (by decide)))).other W18 (Or.inr (slot_ne (Or.inl (hw _ (List.mem_of_getElem? (i := 44) rfl))) (Or.inl (hw _ (List.mem_of_getElem? (i := 42) rfl))) (by decide) (t := .int) (t' := .int) (by decide) (by decide)))).same W19
  have N19 := Fr.snoc X19 N18 g_b3
  show Go p.tables e below T19 (mkF m 138 #[.val (.int p1), .val (.int p2), .val (.long p3), .second, .val (.int p5), .val (.int p6), .val (.int p7), .val (.int z2), .val (.int (p1 &&& (1073741823 : Int32))), .val (.ref b3), .val (.ref nb5), .val (.int y7), .val (.int z10), .unset, .unset, .unset, .unset, .unset] []) _
  refine go1 (fun _ => XS.aload X19.here hx rfl (hb hby at_138) rfl rfl) ?_
  show Go p.tables e below T19 (mkF m 140 #[.val (.int p1), .val (.int p2), .val (.long p3), .second, .val (.int p5), .val (.int p6), .val (.int p7), .val (.int z2), .val (.int (p1 &&& (1073741823 : Int32))), .val (.ref b3), .val (.ref nb5), .val (.int y7), .val (.int z10), .unset, .unset, .unset, .unset, .unset] [(.ref b3)]) _
  refine go1 (fun _ => XS.iconst X19.here hx rfl (hb hby at_140)) ?_
  show Go p.tables e below T19 (mkF m 141 #[.val (.int p1), .val (.int p2), .val (.long p3), .second, .val (.int p5), .val (.int p6), .val (.int p7), .val (.int z2), .val (.int (p1 &&& (1073741823 : Int32))), .val (.ref b3), .val (.ref nb5), .val (.int y7), .val (.int z10), .unset, .unset, .unset, .unset, .unset] [(.int (1 : Int32)), (.ref b3)]) _
  refine go1 (fun _ => XS.iload X19.here hx rfl (hb hby at_141) rfl) ?_
  show Go p.tables e below T19 (mkF m 143 #[.val (.int p1), .val (.int p2), .val (.long p3), .second, .val (.int p5), .val (.int p6), .val (.int p7), .val (.int z2), .val (.int (p1 &&& (1073741823 : Int32))), .val (.ref b3), .val (.ref nb5), .val (.int y7), .val (.int z10), .unset, .unset, .unset, .unset, .unset] [(.int p5), (.int (1 : Int32)), (.ref b3)]) _
  refine go1 (fun _ => XS.bipush X19.here hx rfl (hb hby at_143)) ?_
  show Go p.tables e below T19 (mkF m 145 #[.val (.int p1), .val (.int p2), .val (.long p3), .second, .val (.int p5), .val (.int p6), .val (.int p7), .val (.int z2), .val (.int (p1 &&& (1073741823 : Int32))), .val (.ref b3), .val (.ref nb5), .val (.int y7), .val (.int z10), .unset, .unset, .unset, .unset, .unset] [(.int (20 : Int32)), (.int p5), (.int (1 : Int32)), (.ref b3)]) _
  refine go1 (fun _ => XS.iushr X19.here hx rfl (hb hby at_145) rfl) ?_
  show Go p.tables e below T19 (mkF m 146 #[.val (.int p1), .val (.int p2), .val (.long p3), .second, .val (.int p5), .val (.int p6), .val (.int p7), .val (.int z2), .val (.int (p1 &&& (1073741823 : Int32))), .val (.ref b3), .val (.ref nb5), .val (.int y7), .val (.int z10), .unset, .unset, .unset, .unset, .unset] [(.int ((p5.toUInt32 >>> ((20 : Int32) &&& 31).toUInt32).toInt32)), (.int (1 : Int32)), (.ref b3)]) _
  refine go1 (fun _ => XS.bipush X19.here hx rfl (hb hby at_146)) ?_
  show Go p.tables e below T19 (mkF m 148 #[.val (.int p1), .val (.int p2), .val (.long p3), .second, .val (.int p5), .val (.int p6), .val (.int p7), .val (.int z2), .val (.int (p1 &&& (1073741823 : Int32))), .val (.ref b3), .val (.ref nb5), .val (.int y7), .val (.int z10), .unset, .unset, .unset, .unset, .unset] [(.int (15 : Int32)), (.int ((p5.toUInt32 >>> ((20 : Int32) &&& 31).toUInt32).toInt32)), (.int (1 : Int32)), (.ref b3)]) _
  refine go1 (fun _ => XS.iand X19.here hx rfl (hb hby at_148) rfl) ?_
  show Go p.tables e below T19 (mkF m 149 #[.val (.int p1), .val (.int p2), .val (.long p3), .second, .val (.int p5), .val (.int p6), .val (.int p7), .val (.int z2), .val (.int (p1 &&& (1073741823 : Int32))), .val (.ref b3), .val (.ref nb5), .val (.int y7), .val (.int z10), .unset, .unset, .unset, .unset, .unset] [(.int (((p5.toUInt32 >>> ((20 : Int32) &&& 31).toUInt32).toInt32) &&& (15 : Int32))), (.int (1 : Int32)), (.ref b3)]) _
  refine go1 (fun _ => XS.iadd X19.here hx rfl (hb hby at_149) rfl) ?_
  show Go p.tables e below T19 (mkF m 150 #[.val (.int p1), .val (.int p2), .val (.long p3), .second, .val (.int p5), .val (.int p6), .val (.int p7), .val (.int z2), .val (.int (p1 &&& (1073741823 : Int32))), .val (.ref b3), .val (.ref nb5), .val (.int y7), .val (.int z10), .unset, .unset, .unset, .unset, .unset] [(.int ((1 : Int32) + (((p5.toUInt32 >>> ((20 : Int32) &&& 31).toUInt32).toInt32) &&& (15 : Int32)))), (.ref b3)]) _
  obtain ⟨T20, h20, X20, e20, W20, st20⟩ := putF X19 hx hZ hown (host := "") (Or.inl (hw _ (List.mem_of_getElem? (i := 45) rfl))) Via.refl e19 (((((((G4_6.other W11 (Or.inr (slot_ne (Or.inl (hw _ (List.mem_of_getElem? (i := 11) rfl))) (Or.inl (hw _ (List.mem_of_getElem? (i := 32) rfl))) (by decide) (t := .int) (t' := .long) (by decide) (by decide)))).other W12 (Or.inr (slot_ne (Or.inl (hw _ (List.mem_of_getElem? (i := 11) rfl))) (Or.inl (hw _ (List.mem_of_getElem? (i := 34) rfl))) (by decide) (t := .int) (t' := .int) (by decide) (by decide)))).other W15 (Or.inr (slot_ne (Or.inl (hw _ (List.mem_of_getElem? (i := 11) rfl))) (Or.inl (hw _ (List.mem_of_getElem? (i := 36) rfl))) (by decide) (t := .int) (t' := .boolean) (by decide) (by decide)))).other W16 (Or.inr (slot_ne (Or.inl (hw _ (List.mem_of_getElem? (i := 11) rfl))) (Or.inl (hw _ (List.mem_of_getElem? (i := 38) rfl))) (by decide) (t := .int) (t' := .int) (by decide) (by decide)))).other W17 (Or.inr (slot_ne (Or.inl (hw _ (List.mem_of_getElem? (i := 11) rfl))) (Or.inl (hw _ (List.mem_of_getElem? (i := 40) rfl))) (by decide) (t := .int) (t' := .int) (by decide) (by decide)))).other W18 (Or.inr (slot_ne (Or.inl (hw _ (List.mem_of_getElem? (i := 11) rfl))) (Or.inl (hw _ (List.mem_of_getElem? (i := 42) rfl))) (by decide) (t := .int) (t' := .int) (by decide) (by decide)))).other W19 (Or.inr (slot_ne (Or.inl (hw _ (List.mem_of_getElem? (i := 11) rfl))) (Or.inl (hw _ (List.mem_of_getElem? (i := 44) rfl))) (by decide) (t := .int) (t' := .int) (by decide) (by decide)))) (((((((G4_0.wr W11).wr W12).wr W15).wr W16).wr W17).wr W18).wr W19) (Or.inl (hw _ (List.mem_of_getElem? (i := 11) rfl))) (hw _ (List.mem_of_getElem? (i := 2) rfl)) (ty := .int) (by decide) rfl rfl (g := (mkF m 150 #[.val (.int p1), .val (.int p2), .val (.long p3), .second, .val (.int p5), .val (.int p6), .val (.int p7), .val (.int z2), .val (.int (p1 &&& (1073741823 : Int32))), .val (.ref b3), .val (.ref nb5), .val (.int y7), .val (.int z10), .unset, .unset, .unset, .unset, .unset] [(.int ((1 : Int32) + (((p5.toUInt32 >>> ((20 : Int32) &&& 31).toUInt32).toInt32) &&& (15 : Int32)))), (.ref b3)])) rfl rfl (hb hby at_150)
  refine go1 st20 ?_
  have Fw20 := (((((((G4_6.other W11 (Or.inr (slot_ne (Or.inl (hw _ (List.mem_of_getElem? (i := 11) rfl))) (Or.inl (hw _ (List.mem_of_getElem? (i := 32) rfl))) (by decide) (t := .int) (t' := .long) (by decide) (by decide)))).other W12 (Or.inr (slot_ne (Or.inl (hw _ (List.mem_of_getElem? (i := 11) rfl))) (Or.inl (hw _ (List.mem_of_getElem? (i := 34) rfl))) (by decide) (t := .int) (t' := .int) (by decide) (by decide)))).other W15 (Or.inr (slot_ne (Or.inl (hw _ (List.mem_of_getElem? (i := 11) rfl))) (Or.inl (hw _ (List.mem_of_getElem? (i := 36) rfl))) (by decide) (t := .int) (t' := .boolean) (by decide) (by decide)))).other W16 (Or.inr (slot_ne (Or.inl (hw _ (List.mem_of_getElem? (i := 11) rfl))) (Or.inl (hw _ (List.mem_of_getElem? (i := 38) rfl))) (by decide) (t := .int) (t' := .int) (by decide) (by decide)))).other W17 (Or.inr (slot_ne (Or.inl (hw _ (List.mem_of_getElem? (i := 11) rfl))) (Or.inl (hw _ (List.mem_of_getElem? (i := 40) rfl))) (by decide) (t := .int) (t' := .int) (by decide) (by decide)))).other W18 (Or.inr (slot_ne (Or.inl (hw _ (List.mem_of_getElem? (i := 11) rfl))) (Or.inl (hw _ (List.mem_of_getElem? (i := 42) rfl))) (by decide) (t := .int) (t' := .int) (by decide) (by decide)))).other W19 (Or.inr (slot_ne (Or.inl (hw _ (List.mem_of_getElem? (i := 11) rfl))) (Or.inl (hw _ (List.mem_of_getElem? (i := 44) rfl))) (by decide) (t := .int) (t' := .int) (by decide) (by decide)))).same W20
  have N20 := Fr.snoc X20 N19 g_b3
  show Go p.tables e below T20 (mkF m 153 #[.val (.int p1), .val (.int p2), .val (.long p3), .second, .val (.int p5), .val (.int p6), .val (.int p7), .val (.int z2), .val (.int (p1 &&& (1073741823 : Int32))), .val (.ref b3), .val (.ref nb5), .val (.int y7), .val (.int z10), .unset, .unset, .unset, .unset, .unset] []) _
  refine go1 (fun _ => XS.aload X20.here hx rfl (hb hby at_153) rfl rfl) ?_
  show Go p.tables e below T20 (mkF m 155 #[.val (.int p1), .val (.int p2), .val (.long p3), .second, .val (.int p5), .val (.int p6), .val (.int p7), .val (.int z2), .val (.int (p1 &&& (1073741823 : Int32))), .val (.ref b3), .val (.ref nb5), .val (.int y7), .val (.int z10), .unset, .unset, .unset, .unset, .unset] [(.ref b3)]) _
  obtain ⟨T21, X21, e21, st21⟩ := getF X20 hx hZ hown (host := "") (Or.inl (hw _ (List.mem_of_getElem? (i := 43) rfl))) Via.refl e20 (Fw19.other W20 (Or.inr (slot_ne (Or.inl (hw _ (List.mem_of_getElem? (i := 44) rfl))) (Or.inl (hw _ (List.mem_of_getElem? (i := 11) rfl))) (by decide) (t := .int) (t' := .int) (by decide) (by decide)))) (g := (mkF m 155 #[.val (.int p1), .val (.int p2), .val (.long p3), .second, .val (.int p5), .val (.int p6), .val (.int p7), .val (.int z2), .val (.int (p1 &&& (1073741823 : Int32))), .val (.ref b3), .val (.ref nb5), .val (.int y7), .val (.int z10), .unset, .unset, .unset, .unset, .unset] [(.ref b3)])) rfl rfl (hb hby at_155)
  refine go1 st21 ?_
  show Go p.tables e below T21 (mkF m 158 #[.val (.int p1), .val (.int p2), .val (.long p3), .second, .val (.int p5), .val (.int p6), .val (.int p7), .val (.int z2), .val (.int (p1 &&& (1073741823 : Int32))), .val (.ref b3), .val (.ref nb5), .val (.int y7), .val (.int z10), .unset, .unset, .unset, .unset, .unset] [(.int (((p5.toUInt32 >>> ((16 : Int32) &&& 31).toUInt32).toInt32) &&& (15 : Int32)))]) _
  refine go1 (fun _ => XS.istore X21.here hx rfl (hb hby at_158) rfl (l' := #[.val (.int p1), .val (.int p2), .val (.long p3), .second, .val (.int p5), .val (.int p6), .val (.int p7), .val (.int z2), .val (.int (p1 &&& (1073741823 : Int32))), .val (.ref b3), .val (.ref nb5), .val (.int y7), .val (.int z10), .val (.int (((p5.toUInt32 >>> ((16 : Int32) &&& 31).toUInt32).toInt32) &&& (15 : Int32))), .unset, .unset, .unset, .unset]) rfl) ?_
  show Go p.tables e below T21 (mkF m 160 #[.val (.int p1), .val (.int p2), .val (.long p3), .second, .val (.int p5), .val (.int p6), .val (.int p7), .val (.int z2), .val (.int (p1 &&& (1073741823 : Int32))), .val (.ref b3), .val (.ref nb5), .val (.int y7), .val (.int z10), .val (.int (((p5.toUInt32 >>> ((16 : Int32) &&& 31).toUInt32).toInt32) &&& (15 : Int32))), .unset, .unset, .unset, .unset] []) _
  refine go1 (fun _ => XS.aload X21.here hx rfl (hb hby at_160) rfl rfl) ?_
  show Go p.tables e below T21 (mkF m 162 #[.val (.int p1), .val (.int p2), .val (.long p3), .second, .val (.int p5), .val (.int p6), .val (.int p7), .val (.int z2), .val (.int (p1 &&& (1073741823 : Int32))), .val (.ref b3), .val (.ref nb5), .val (.int y7), .val (.int z10), .val (.int (((p5.toUInt32 >>> ((16 : Int32) &&& 31).toUInt32).toInt32) &&& (15 : Int32))), .unset, .unset, .unset, .unset] [(.ref b3)]) _
  obtain ⟨T22, X22, e22, st22⟩ := getF X21 hx hZ hown (host := "") (Or.inl (hw _ (List.mem_of_getElem? (i := 45) rfl))) Via.refl e21 Fw20 (g := (mkF m 162 #[.val (.int p1), .val (.int p2), .val (.long p3), .second, .val (.int p5), .val (.int p6), .val (.int p7), .val (.int z2), .val (.int (p1 &&& (1073741823 : Int32))), .val (.ref b3), .val (.ref nb5), .val (.int y7), .val (.int z10), .val (.int (((p5.toUInt32 >>> ((16 : Int32) &&& 31).toUInt32).toInt32) &&& (15 : Int32))), .unset, .unset, .unset, .unset] [(.ref b3)])) rfl rfl (hb hby at_162)
  refine go1 st22 ?_
  show Go p.tables e below T22 (mkF m 165 #[.val (.int p1), .val (.int p2), .val (.long p3), .second, .val (.int p5), .val (.int p6), .val (.int p7), .val (.int z2), .val (.int (p1 &&& (1073741823 : Int32))), .val (.ref b3), .val (.ref nb5), .val (.int y7), .val (.int z10), .val (.int (((p5.toUInt32 >>> ((16 : Int32) &&& 31).toUInt32).toInt32) &&& (15 : Int32))), .unset, .unset, .unset, .unset] [(.int ((1 : Int32) + (((p5.toUInt32 >>> ((20 : Int32) &&& 31).toUInt32).toInt32) &&& (15 : Int32))))]) _
  refine go1 (fun _ => XS.istore X22.here hx rfl (hb hby at_165) rfl (l' := #[.val (.int p1), .val (.int p2), .val (.long p3), .second, .val (.int p5), .val (.int p6), .val (.int p7), .val (.int z2), .val (.int (p1 &&& (1073741823 : Int32))), .val (.ref b3), .val (.ref nb5), .val (.int y7), .val (.int z10), .val (.int (((p5.toUInt32 >>> ((16 : Int32) &&& 31).toUInt32).toInt32) &&& (15 : Int32))), .val (.int ((1 : Int32) + (((p5.toUInt32 >>> ((20 : Int32) &&& 31).toUInt32).toInt32) &&& (15 : Int32)))), .unset, .unset, .unset]) rfl) ?_
  show Go p.tables e below T22 (mkF m 167 #[.val (.int p1), .val (.int p2), .val (.long p3), .second, .val (.int p5), .val (.int p6), .val (.int p7), .val (.int z2), .val (.int (p1 &&& (1073741823 : Int32))), .val (.ref b3), .val (.ref nb5), .val (.int y7), .val (.int z10), .val (.int (((p5.toUInt32 >>> ((16 : Int32) &&& 31).toUInt32).toInt32) &&& (15 : Int32))), .val (.int ((1 : Int32) + (((p5.toUInt32 >>> ((20 : Int32) &&& 31).toUInt32).toInt32) &&& (15 : Int32)))), .unset, .unset, .unset] []) _
  refine go1 (fun _ => XS.aload X22.here hx rfl (hb hby at_167) rfl rfl) ?_
  show Go p.tables e below T22 (mkF m 169 #[.val (.int p1), .val (.int p2), .val (.long p3), .second, .val (.int p5), .val (.int p6), .val (.int p7), .val (.int z2), .val (.int (p1 &&& (1073741823 : Int32))), .val (.ref b3), .val (.ref nb5), .val (.int y7), .val (.int z10), .val (.int (((p5.toUInt32 >>> ((16 : Int32) &&& 31).toUInt32).toInt32) &&& (15 : Int32))), .val (.int ((1 : Int32) + (((p5.toUInt32 >>> ((20 : Int32) &&& 31).toUInt32).toInt32) &&& (15 : Int32)))), .unset, .unset, .unset] [(.ref b3)]) _
  refine go1 (fun _ => XS.iload X22.here hx rfl (hb hby at_169) rfl) ?_
  show Go p.tables e below T22 (mkF m 171 #[.val (.int p1), .val (.int p2), .val (.long p3), .second, .val (.int p5), .val (.int p6), .val (.int p7), .val (.int z2), .val (.int (p1 &&& (1073741823 : Int32))), .val (.ref b3), .val (.ref nb5), .val (.int y7), .val (.int z10), .val (.int (((p5.toUInt32 >>> ((16 : Int32) &&& 31).toUInt32).toInt32) &&& (15 : Int32))), .val (.int ((1 : Int32) + (((p5.toUInt32 >>> ((20 : Int32) &&& 31).toUInt32).toInt32) &&& (15 : Int32)))), .unset, .unset, .unset] [(.int z10), (.ref b3)]) _
  obtain ⟨cq23, kq23, q23a, q23b, q23c⟩ := isOf hZ e22 ((((((((G4_0.wr W11).wr W12).wr W15).wr W16).wr W17).wr W18).wr W19).wr W20)
  obtain ⟨_, _, ⟨T23, L23, k23, n23⟩, -, X23, ⟨Lc23, hQ23, l23, y23, z23⟩, st23⟩ := X22.virtualBack hx (y := (⟨"com/example/carmine/carmine/Walk", "endAt", "(I)V"⟩ : MethodName)) (z := (⟨"com/example/carmine/carmine/Walk", "endAt", "(I)V"⟩ : MethodName)) hown (mvT hZ (hw _ (List.mem_of_getElem? (i := 46) rfl))) (mvT hZ (hw _ (List.mem_of_getElem? (i := 47) rfl))) (notFace_of_selects (args := #[]) (mvT hZ (hw _ (List.mem_of_getElem? (i := 49) rfl)))) (mvT hZ (hw _ (List.mem_of_getElem? (i := 49) rfl))) (mvT hZ (hw _ (List.mem_of_getElem? (i := 48) rfl))) (by decide) (backOf (W := 0) (rm6 l Z a0 hw [] b3 z10 p3 ((p5.toUInt32 >>> ((8 : Int32) &&& 31).toUInt32).toInt32) (nar .boolean z14) ((z10 + (1 : Int32)) + (((p5.toUInt32 >>> ((2 : Int32) &&& 31).toUInt32).toInt32) &&& (63 : Int32))) p6 p7 nb5 (nar .boolean z2) (((p5.toUInt32 >>> ((16 : Int32) &&& 31).toUInt32).toInt32) &&& (15 : Int32)) ((1 : Int32) + (((p5.toUInt32 >>> ((20 : Int32) &&& 31).toUInt32).toInt32) &&& (15 : Int32))) h20 n0 (Nat.le_trans (Nat.le_trans (Nat.le_trans (Nat.le_trans (Nat.le_trans (Nat.le_trans (Nat.le_trans (Nat.le_trans (Nat.le_trans (Nat.le_trans Z0 E3.1) K4.1) (Keep.of_wr W11).1) (Keep.of_wr W12).1) (Keep.of_wr W15).1) (Keep.of_wr W16).1) (Keep.of_wr W17).1) (Keep.of_wr W18).1) (Keep.of_wr W19).1) (Keep.of_wr W20).1) (((((((Fw11.other W12 (Or.inr (slot_ne (Or.inl (hw _ (List.mem_of_getElem? (i := 32) rfl))) (Or.inl (hw _ (List.mem_of_getElem? (i := 34) rfl))) (by decide) (t := .long) (t' := .int) (by decide) (by decide)))).other W15 (Or.inr (slot_ne (Or.inl (hw _ (List.mem_of_getElem? (i := 32) rfl))) (Or.inl (hw _ (List.mem_of_getElem? (i := 36) rfl))) (by decide) (t := .long) (t' := .boolean) (by decide) (by decide)))).other W16 (Or.inr (slot_ne (Or.inl (hw _ (List.mem_of_getElem? (i := 32) rfl))) (Or.inl (hw _ (List.mem_of_getElem? (i := 38) rfl))) (by decide) (t := .long) (t' := .int) (by decide) (by decide)))).other W17 (Or.inr (slot_ne (Or.inl (hw _ (List.mem_of_getElem? (i := 32) rfl))) (Or.inl (hw _ (List.mem_of_getElem? (i := 40) rfl))) (by decide) (t := .long) (t' := .int) (by decide) (by decide)))).other W18 (Or.inr (slot_ne (Or.inl (hw _ (List.mem_of_getElem? (i := 32) rfl))) (Or.inl (hw _ (List.mem_of_getElem? (i := 42) rfl))) (by decide) (t := .long) (t' := .int) (by decide) (by decide)))).other W19 (Or.inr (slot_ne (Or.inl (hw _ (List.mem_of_getElem? (i := 32) rfl))) (Or.inl (hw _ (List.mem_of_getElem? (i := 44) rfl))) (by decide) (t := .long) (t' := .int) (by decide) (by decide)))).other W20 (Or.inr (slot_ne (Or.inl (hw _ (List.mem_of_getElem? (i := 32) rfl))) (Or.inl (hw _ (List.mem_of_getElem? (i := 11) rfl))) (by decide) (t := .long) (t' := .int) (by decide) (by decide)))) ((((((Fw12.other W15 (Or.inr (slot_ne (Or.inl (hw _ (List.mem_of_getElem? (i := 34) rfl))) (Or.inl (hw _ (List.mem_of_getElem? (i := 36) rfl))) (by decide) (t := .int) (t' := .boolean) (by decide) (by decide)))).other W16 (Or.inr (slot_ne (Or.inl (hw _ (List.mem_of_getElem? (i := 34) rfl))) (Or.inl (hw _ (List.mem_of_getElem? (i := 38) rfl))) (by decide) (t := .int) (t' := .int) (by decide) (by decide)))).other W17 (Or.inr (slot_ne (Or.inl (hw _ (List.mem_of_getElem? (i := 34) rfl))) (Or.inl (hw _ (List.mem_of_getElem? (i := 40) rfl))) (by decide) (t := .int) (t' := .int) (by decide) (by decide)))).other W18 (Or.inr (slot_ne (Or.inl (hw _ (List.mem_of_getElem? (i := 34) rfl))) (Or.inl (hw _ (List.mem_of_getElem? (i := 42) rfl))) (by decide) (t := .int) (t' := .int) (by decide) (by decide)))).other W19 (Or.inr (slot_ne (Or.inl (hw _ (List.mem_of_getElem? (i := 34) rfl))) (Or.inl (hw _ (List.mem_of_getElem? (i := 44) rfl))) (by decide) (t := .int) (t' := .int) (by decide) (by decide)))).other W20 (Or.inr (slot_ne (Or.inl (hw _ (List.mem_of_getElem? (i := 34) rfl))) (Or.inl (hw _ (List.mem_of_getElem? (i := 11) rfl))) (by decide) (t := .int) (t' := .int) (by decide) (by decide)))) (((((Fw15.other W16 (Or.inr (slot_ne (Or.inl (hw _ (List.mem_of_getElem? (i := 36) rfl))) (Or.inl (hw _ (List.mem_of_getElem? (i := 38) rfl))) (by decide) (t := .boolean) (t' := .int) (by decide) (by decide)))).other W17 (Or.inr (slot_ne (Or.inl (hw _ (List.mem_of_getElem? (i := 36) rfl))) (Or.inl (hw _ (List.mem_of_getElem? (i := 40) rfl))) (by decide) (t := .boolean) (t' := .int) (by decide) (by decide)))).other W18 (Or.inr (slot_ne (Or.inl (hw _ (List.mem_of_getElem? (i := 36) rfl))) (Or.inl (hw _ (List.mem_of_getElem? (i := 42) rfl))) (by decide) (t := .boolean) (t' := .int) (by decide) (by decide)))).other W19 (Or.inr (slot_ne (Or.inl (hw _ (List.mem_of_getElem? (i := 36) rfl))) (Or.inl (hw _ (List.mem_of_getElem? (i := 44) rfl))) (by decide) (t := .boolean) (t' := .int) (by decide) (by decide)))).other W20 (Or.inr (slot_ne (Or.inl (hw _ (List.mem_of_getElem? (i := 36) rfl))) (Or.inl (hw _ (List.mem_of_getElem? (i := 11) rfl))) (by decide) (t := .boolean) (t' := .int) (by decide) (by decide)))) ((((Fw16.other W17 (Or.inr (slot_ne (Or.inl (hw _ (List.mem_of_getElem? (i := 38) rfl))) (Or.inl (hw _ (List.mem_of_getElem? (i := 40) rfl))) (by decide) (t := .int) (t' := .int) (by decide) (by decide)))).other W18 (Or.inr (slot_ne (Or.inl (hw _ (List.mem_of_getElem? (i := 38) rfl))) (Or.inl (hw _ (List.mem_of_getElem? (i := 42) rfl))) (by decide) (t := .int) (t' := .int) (by decide) (by decide)))).other W19 (Or.inr (slot_ne (Or.inl (hw _ (List.mem_of_getElem? (i := 38) rfl))) (Or.inl (hw _ (List.mem_of_getElem? (i := 44) rfl))) (by decide) (t := .int) (t' := .int) (by decide) (by decide)))).other W20 (Or.inr (slot_ne (Or.inl (hw _ (List.mem_of_getElem? (i := 38) rfl))) (Or.inl (hw _ (List.mem_of_getElem? (i := 11) rfl))) (by decide) (t := .int) (t' := .int) (by decide) (by decide)))) (((Fw17.other W18 (Or.inr (slot_ne (Or.inl (hw _ (List.mem_of_getElem? (i := 40) rfl))) (Or.inl (hw _ (List.mem_of_getElem? (i := 42) rfl))) (by decide) (t := .int) (t' := .int) (by decide) (by decide)))).other W19 (Or.inr (slot_ne (Or.inl (hw _ (List.mem_of_getElem? (i := 40) rfl))) (Or.inl (hw _ (List.mem_of_getElem? (i := 44) rfl))) (by decide) (t := .int) (t' := .int) (by decide) (by decide)))).other W20 (Or.inr (slot_ne (Or.inl (hw _ (List.mem_of_getElem? (i := 40) rfl))) (Or.inl (hw _ (List.mem_of_getElem? (i := 11) rfl))) (by decide) (t := .int) (t' := .int) (by decide) (by decide)))) ((Fw18.other W19 (Or.inr (slot_ne (Or.inl (hw _ (List.mem_of_getElem? (i := 42) rfl))) (Or.inl (hw _ (List.mem_of_getElem? (i := 44) rfl))) (by decide) (t := .int) (t' := .int) (by decide) (by decide)))).other W20 (Or.inr (slot_ne (Or.inl (hw _ (List.mem_of_getElem? (i := 42) rfl))) (Or.inl (hw _ (List.mem_of_getElem? (i := 11) rfl))) (by decide) (t := .int) (t' := .int) (by decide) (by decide)))) ((((((((G4_1.other W11 (Or.inr (slot_ne (Or.inr (hw _ (List.mem_of_getElem? (i := 26) rfl))) (Or.inl (hw _ (List.mem_of_getElem? (i := 32) rfl))) (by decide) (t := (.array (.object "com/example/carmine/carmine/Node"))) (t' := .long) (by decide) (by decide)))).other W12 (Or.inr (slot_ne (Or.inr (hw _ (List.mem_of_getElem? (i := 26) rfl))) (Or.inl (hw _ (List.mem_of_getElem? (i := 34) rfl))) (by decide) (t := (.array (.object "com/example/carmine/carmine/Node"))) (t' := .int) (by decide) (by decide)))).other W15 (Or.inr (slot_ne (Or.inr (hw _ (List.mem_of_getElem? (i := 26) rfl))) (Or.inl (hw _ (List.mem_of_getElem? (i := 36) rfl))) (by decide) (t := (.array (.object "com/example/carmine/carmine/Node"))) (t' := .boolean) (by decide) (by decide)))).other W16 (Or.inr (slot_ne (Or.inr (hw _ (List.mem_of_getElem? (i := 26) rfl))) (Or.inl (hw _ (List.mem_of_getElem? (i := 38) rfl))) (by decide) (t := (.array (.object "com/example/carmine/carmine/Node"))) (t' := .int) (by decide) (by decide)))).other W17 (Or.inr (slot_ne (Or.inr (hw _ (List.mem_of_getElem? (i := 26) rfl))) (Or.inl (hw _ (List.mem_of_getElem? (i := 40) rfl))) (by decide) (t := (.array (.object "com/example/carmine/carmine/Node"))) (t' := .int) (by decide) (by decide)))).other W18 (Or.inr (slot_ne (Or.inr (hw _ (List.mem_of_getElem? (i := 26) rfl))) (Or.inl (hw _ (List.mem_of_getElem? (i := 42) rfl))) (by decide) (t := (.array (.object "com/example/carmine/carmine/Node"))) (t' := .int) (by decide) (by decide)))).other W19 (Or.inr (slot_ne (Or.inr (hw _ (List.mem_of_getElem? (i := 26) rfl))) (Or.inl (hw _ (List.mem_of_getElem? (i := 44) rfl))) (by decide) (t := (.array (.object "com/example/carmine/carmine/Node"))) (t' := .int) (by decide) (by decide)))).other W20 (Or.inr (slot_ne (Or.inr (hw _ (List.mem_of_getElem? (i := 26) rfl))) (Or.inl (hw _ (List.mem_of_getElem? (i := 11) rfl))) (by decide) (t := (.array (.object "com/example/carmine/carmine/Node"))) (t' := .int) (by decide) (by decide)))) ((((((((G4_5.other W11 (Or.inr (slot_ne (Or.inr (hw _ (List.mem_of_getElem? (i := 28) rfl))) (Or.inl (hw _ (List.mem_of_getElem? (i := 32) rfl))) (by decide) (t := .boolean) (t' := .long) (by decide) (by decide)))).other W12 (Or.inr (slot_ne (Or.inr (hw _ (List.mem_of_getElem? (i := 28) rfl))) (Or.inl (hw _ (List.mem_of_getElem? (i := 34) rfl))) (by decide) (t := .boolean) (t' := .int) (by decide) (by decide)))).other W15 (Or.inr (slot_ne (Or.inr (hw _ (List.mem_of_getElem? (i := 28) rfl))) (Or.inl (hw _ (List.mem_of_getElem? (i := 36) rfl))) (by decide) (t := .boolean) (t' := .boolean) (by decide) (by decide)))).other W16 (Or.inr (slot_ne (Or.inr (hw _ (List.mem_of_getElem? (i := 28) rfl))) (Or.inl (hw _ (List.mem_of_getElem? (i := 38) rfl))) (by decide) (t := .boolean) (t' := .int) (by decide) (by decide)))).other W17 (Or.inr (slot_ne (Or.inr (hw _ (List.mem_of_getElem? (i := 28) rfl))) (Or.inl (hw _ (List.mem_of_getElem? (i := 40) rfl))) (by decide) (t := .boolean) (t' := .int) (by decide) (by decide)))).other W18 (Or.inr (slot_ne (Or.inr (hw _ (List.mem_of_getElem? (i := 28) rfl))) (Or.inl (hw _ (List.mem_of_getElem? (i := 42) rfl))) (by decide) (t := .boolean) (t' := .int) (by decide) (by decide)))).other W19 (Or.inr (slot_ne (Or.inr (hw _ (List.mem_of_getElem? (i := 28) rfl))) (Or.inl (hw _ (List.mem_of_getElem? (i := 44) rfl))) (by decide) (t := .boolean) (t' := .int) (by decide) (by decide)))).other W20 (Or.inr (slot_ne (Or.inr (hw _ (List.mem_of_getElem? (i := 28) rfl))) (Or.inl (hw _ (List.mem_of_getElem? (i := 11) rfl))) (by decide) (t := .boolean) (t' := .int) (by decide) (by decide)))) (Fw19.other W20 (Or.inr (slot_ne (Or.inl (hw _ (List.mem_of_getElem? (i := 44) rfl))) (Or.inl (hw _ (List.mem_of_getElem? (i := 11) rfl))) (by decide) (t := .int) (t' := .int) (by decide) (by decide)))) Fw20 ((((((((G4_0.wr W11).wr W12).wr W15).wr W16).wr W17).wr W18).wr W19).wr W20) g_b3) hZ (hw _ (List.mem_of_getElem? (i := 50) rfl)) (hw _ (List.mem_of_getElem? (i := 3) rfl)) (by decide) (by decide)) q23a q23c (g := (mkF m 171 #[.val (.int p1), .val (.int p2), .val (.long p3), .second, .val (.int p5), .val (.int p6), .val (.int p7), .val (.int z2), .val (.int (p1 &&& (1073741823 : Int32))), .val (.ref b3), .val (.ref nb5), .val (.int y7), .val (.int z10), .val (.int (((p5.toUInt32 >>> ((16 : Int32) &&& 31).toUInt32).toInt32) &&& (15 : Int32))), .val (.int ((1 : Int32) + (((p5.toUInt32 >>> ((20 : Int32) &&& 31).toUInt32).toInt32) &&& (15 : Int32)))), .unset, .unset, .unset] [(.int z10), (.ref b3)])) rfl (by rw [hml]; rfl) (Steps.refl _) (argsL := [(.int z10)]) (rest := []) (lenOf pd0_1 rfl) rfl (by show 2 * 0 + _ ≤ _; exact Nat.le_of_eq rfl) (hb hby at_171) (fun _ _ => ⟨rfl, e22, (by decide : 2 + 0 ≤ _), (by decide : 72 + 0 ≤ _)⟩)
  dsimp only [Pt.U, Pt.locs, Pt.cells, Pt.slots] at X23 l23 y23 z23 st23 hQ23
  subst l23 y23 z23
  obtain ⟨rfl, N23q, K23, G23_0, G23_1, G23_2, G23_3, G23_4, G23_5, G23_6, G23_7, G23_8, G23_9, G23_10⟩ := hQ23
  have N23 := Fr.app N20 N23q
  refine goT st23 ?_
  show Go p.tables e below T23 (mkF m 174 #[.val (.int p1), .val (.int p2), .val (.long p3), .second, .val (.int p5), .val (.int p6), .val (.int p7), .val (.int z2), .val (.int (p1 &&& (1073741823 : Int32))), .val (.ref b3), .val (.ref nb5), .val (.int y7), .val (.int z10), .val (.int (((p5.toUInt32 >>> ((16 : Int32) &&& 31).toUInt32).toInt32) &&& (15 : Int32))), .val (.int ((1 : Int32) + (((p5.toUInt32 >>> ((20 : Int32) &&& 31).toUInt32).toInt32) &&& (15 : Int32)))), .unset, .unset, .unset] []) _
  refine go1 (fun _ => XS.iload X23.here hx rfl (hb hby at_174) rfl) ?_
  show Go p.tables e below T23 (mkF m 176 #[.val (.int p1), .val (.int p2), .val (.long p3), .second, .val (.int p5), .val (.int p6), .val (.int p7), .val (.int z2), .val (.int (p1 &&& (1073741823 : Int32))), .val (.ref b3), .val (.ref nb5), .val (.int y7), .val (.int z10), .val (.int (((p5.toUInt32 >>> ((16 : Int32) &&& 31).toUInt32).toInt32) &&& (15 : Int32))), .val (.int ((1 : Int32) + (((p5.toUInt32 >>> ((20 : Int32) &&& 31).toUInt32).toInt32) &&& (15 : Int32)))), .unset, .unset, .unset] [(.int z10)]) _
  refine go1 (T' := T23) (g' := (mkF m 196 #[.val (.int p1), .val (.int p2), .val (.long p3), .second, .val (.int p5), .val (.int p6), .val (.int p7), .val (.int z2), .val (.int (p1 &&& (1073741823 : Int32))), .val (.ref b3), .val (.ref nb5), .val (.int y7), .val (.int z10), .val (.int (((p5.toUInt32 >>> ((16 : Int32) &&& 31).toUInt32).toInt32) &&& (15 : Int32))), .val (.int ((1 : Int32) + (((p5.toUInt32 >>> ((20 : Int32) &&& 31).toUInt32).toInt32) &&& (15 : Int32)))), .unset, .unset, .unset] [(.long (if z10 = (0 : Int32) then (0 : Int64) else (((p3 <<< (((64 : Int32) - z10) &&& 0x3f).toInt64).toUInt64 >>> (((64 : Int32) - z10) &&& 0x3f).toInt64.toUInt64).toInt64)))])) (fun t k => ?_) ?_
  · by_cases hd24 : z10 = (0 : Int32)
    · skip
      rw [(if_pos hd24 : (if z10 = (0 : Int32) then (0 : Int64) else (((p3 <<< (((64 : Int32) - z10) &&& 0x3f).toInt64).toUInt64 >>> (((64 : Int32) - z10) &&& 0x3f).toInt64.toUInt64).toInt64)) = (0 : Int64))] at k
      show Steps p.tables e below (T23.setTop (mkF m 176 #[.val (.int p1), .val (.int p2), .val (.long p3), .second, .val (.int p5), .val (.int p6), .val (.int p7), .val (.int z2), .val (.int (p1 &&& (1073741823 : Int32))), .val (.ref b3), .val (.ref nb5), .val (.int y7), .val (.int z10), .val (.int (((p5.toUInt32 >>> ((16 : Int32) &&& 31).toUInt32).toInt32) &&& (15 : Int32))), .val (.int ((1 : Int32) + (((p5.toUInt32 >>> ((20 : Int32) &&& 31).toUInt32).toInt32) &&& (15 : Int32)))), .unset, .unset, .unset] [(.int z10)])) _
      refine XS.ifNo X23.here hx rfl (hb hby at_176) rfl ((if0 _ _).trans (teq hd24).2) ?_
      show Steps p.tables e below (T23.setTop (mkF m 179 #[.val (.int p1), .val (.int p2), .val (.long p3), .second, .val (.int p5), .val (.int p6), .val (.int p7), .val (.int z2), .val (.int (p1 &&& (1073741823 : Int32))), .val (.ref b3), .val (.ref nb5), .val (.int y7), .val (.int z10), .val (.int (((p5.toUInt32 >>> ((16 : Int32) &&& 31).toUInt32).toInt32) &&& (15 : Int32))), .val (.int ((1 : Int32) + (((p5.toUInt32 >>> ((20 : Int32) &&& 31).toUInt32).toInt32) &&& (15 : Int32)))), .unset, .unset, .unset] [])) _
      refine XS.lconst X23.here hx rfl (hb hby at_179) ?_
      show Steps p.tables e below (T23.setTop (mkF m 180 #[.val (.int p1), .val (.int p2), .val (.long p3), .second, .val (.int p5), .val (.int p6), .val (.int p7), .val (.int z2), .val (.int (p1 &&& (1073741823 : Int32))), .val (.ref b3), .val (.ref nb5), .val (.int y7), .val (.int z10), .val (.int (((p5.toUInt32 >>> ((16 : Int32) &&& 31).toUInt32).toInt32) &&& (15 : Int32))), .val (.int ((1 : Int32) + (((p5.toUInt32 >>> ((20 : Int32) &&& 31).toUInt32).toInt32) &&& (15 : Int32)))), .unset, .unset, .unset] [(.long (0 : Int64))])) _
      refine XS.goto X23.here hx rfl (pc0 := 180) (pc' := 196) rfl (hb hby at_180) (by decide) (by decide) ?_
      show Steps p.tables e below (T23.setTop (mkF m 196 #[.val (.int p1), .val (.int p2), .val (.long p3), .second, .val (.int p5), .val (.int p6), .val (.int p7), .val (.int z2), .val (.int (p1 &&& (1073741823 : Int32))), .val (.ref b3), .val (.ref nb5), .val (.int y7), .val (.int z10), .val (.int (((p5.toUInt32 >>> ((16 : Int32) &&& 31).toUInt32).toInt32) &&& (15 : Int32))), .val (.int ((1 : Int32) + (((p5.toUInt32 >>> ((20 : Int32) &&& 31).toUInt32).toInt32) &&& (15 : Int32)))), .unset, .unset, .unset] [(.long (0 : Int64))])) _
      exact k
    · skip
      rw [(if_neg hd24 : (if z10 = (0 : Int32) then (0 : Int64) else (((p3 <<< (((64 : Int32) - z10) &&& 0x3f).toInt64).toUInt64 >>> (((64 : Int32) - z10) &&& 0x3f).toInt64.toUInt64).toInt64)) = (((p3 <<< (((64 : Int32) - z10) &&& 0x3f).toInt64).toUInt64 >>> (((64 : Int32) - z10) &&& 0x3f).toInt64.toUInt64).toInt64))] at k
      show Steps p.tables e below (T23.setTop (mkF m 176 #[.val (.int p1), .val (.int p2), .val (.long p3), .second, .val (.int p5), .val (.int p6), .val (.int p7), .val (.int z2), .val (.int (p1 &&& (1073741823 : Int32))), .val (.ref b3), .val (.ref nb5), .val (.int y7), .val (.int z10), .val (.int (((p5.toUInt32 >>> ((16 : Int32) &&& 31).toUInt32).toInt32) &&& (15 : Int32))), .val (.int ((1 : Int32) + (((p5.toUInt32 >>> ((20 : Int32) &&& 31).toUInt32).toInt32) &&& (15 : Int32)))), .unset, .unset, .unset] [(.int z10)])) _
      refine XS.ifYes X23.here hx rfl (pc0 := 176) (pc' := 183) rfl (hb hby at_176) rfl ((if0 _ _).trans (feq hd24).2) (by decide) (by decide) ?_
      show Steps p.tables e below (T23.setTop (mkF m 183 #[.val (.int p1), .val (.int p2), .val (.long p3), .second, .val (.int p5), .val (.int p6), .val (.int p7), .val (.int z2), .val (.int (p1 &&& (1073741823 : Int32))), .val (.ref b3), .val (.ref nb5), .val (.int y7), .val (.int z10), .val (.int (((p5.toUInt32 >>> ((16 : Int32) &&& 31).toUInt32).toInt32) &&& (15 : Int32))), .val (.int ((1 : Int32) + (((p5.toUInt32 >>> ((20 : Int32) &&& 31).toUInt32).toInt32) &&& (15 : Int32)))), .unset, .unset, .unset] [])) _
      refine XS.lloadN X23.here hx rfl (hb hby at_183) rfl ?_
      show Steps p.tables e below (T23.setTop (mkF m 184 #[.val (.int p1), .val (.int p2), .val (.long p3), .second, .val (.int p5), .val (.int p6), .val (.int p7), .val (.int z2), .val (.int (p1 &&& (1073741823 : Int32))), .val (.ref b3), .val (.ref nb5), .val (.int y7), .val (.int z10), .val (.int (((p5.toUInt32 >>> ((16 : Int32) &&& 31).toUInt32).toInt32) &&& (15 : Int32))), .val (.int ((1 : Int32) + (((p5.toUInt32 >>> ((20 : Int32) &&& 31).toUInt32).toInt32) &&& (15 : Int32)))), .unset, .unset, .unset] [(.long p3)])) _
      refine XS.bipush X23.here hx rfl (hb hby at_184) ?_
      show Steps p.tables e below (T23.setTop (mkF m 186 #[.val (.int p1), .val (.int p2), .val (.long p3), .second, .val (.int p5), .val (.int p6), .val (.int p7), .val (.int z2), .val (.int (p1 &&& (1073741823 : Int32))), .val (.ref b3), .val (.ref nb5), .val (.int y7), .val (.int z10), .val (.int (((p5.toUInt32 >>> ((16 : Int32) &&& 31).toUInt32).toInt32) &&& (15 : Int32))), .val (.int ((1 : Int32) + (((p5.toUInt32 >>> ((20 : Int32) &&& 31).toUInt32).toInt32) &&& (15 : Int32)))), .unset, .unset, .unset] [(.int (64 : Int32)), (.long p3)])) _
      refine XS.iload X23.here hx rfl (hb hby at_186) rfl ?_
      show Steps p.tables e below (T23.setTop (mkF m 188 #[.val (.int p1), .val (.int p2), .val (.long p3), .second, .val (.int p5), .val (.int p6), .val (.int p7), .val (.int z2), .val (.int (p1 &&& (1073741823 : Int32))), .val (.ref b3), .val (.ref nb5), .val (.int y7), .val (.int z10), .val (.int (((p5.toUInt32 >>> ((16 : Int32) &&& 31).toUInt32).toInt32) &&& (15 : Int32))), .val (.int ((1 : Int32) + (((p5.toUInt32 >>> ((20 : Int32) &&& 31).toUInt32).toInt32) &&& (15 : Int32)))), .unset, .unset, .unset] [(.int z10), (.int (64 : Int32)), (.long p3)])) _
      refine XS.isub X23.here hx rfl (hb hby at_188) rfl ?_
      show Steps p.tables e below (T23.setTop (mkF m 189 #[.val (.int p1), .val (.int p2), .val (.long p3), .second, .val (.int p5), .val (.int p6), .val (.int p7), .val (.int z2), .val (.int (p1 &&& (1073741823 : Int32))), .val (.ref b3), .val (.ref nb5), .val (.int y7), .val (.int z10), .val (.int (((p5.toUInt32 >>> ((16 : Int32) &&& 31).toUInt32).toInt32) &&& (15 : Int32))), .val (.int ((1 : Int32) + (((p5.toUInt32 >>> ((20 : Int32) &&& 31).toUInt32).toInt32) &&& (15 : Int32)))), .unset, .unset, .unset] [(.int ((64 : Int32) - z10)), (.long p3)])) _
      refine XS.lshl X23.here hx rfl (hb hby at_189) rfl ?_
      show Steps p.tables e below (T23.setTop (mkF m 190 #[.val (.int p1), .val (.int p2), .val (.long p3), .second, .val (.int p5), .val (.int p6), .val (.int p7), .val (.int z2), .val (.int (p1 &&& (1073741823 : Int32))), .val (.ref b3), .val (.ref nb5), .val (.int y7), .val (.int z10), .val (.int (((p5.toUInt32 >>> ((16 : Int32) &&& 31).toUInt32).toInt32) &&& (15 : Int32))), .val (.int ((1 : Int32) + (((p5.toUInt32 >>> ((20 : Int32) &&& 31).toUInt32).toInt32) &&& (15 : Int32)))), .unset, .unset, .unset] [(.long (p3 <<< (((64 : Int32) - z10) &&& 0x3f).toInt64))])) _
      refine XS.bipush X23.here hx rfl (hb hby at_190) ?_
      show Steps p.tables e below (T23.setTop (mkF m 192 #[.val (.int p1), .val (.int p2), .val (.long p3), .second, .val (.int p5), .val (.int p6), .val (.int p7), .val (.int z2), .val (.int (p1 &&& (1073741823 : Int32))), .val (.ref b3), .val (.ref nb5), .val (.int y7), .val (.int z10), .val (.int (((p5.toUInt32 >>> ((16 : Int32) &&& 31).toUInt32).toInt32) &&& (15 : Int32))), .val (.int ((1 : Int32) + (((p5.toUInt32 >>> ((20 : Int32) &&& 31).toUInt32).toInt32) &&& (15 : Int32)))), .unset, .unset, .unset] [(.int (64 : Int32)), (.long (p3 <<< (((64 : Int32) - z10) &&& 0x3f).toInt64))])) _
      refine XS.iload X23.here hx rfl (hb hby at_192) rfl ?_
      show Steps p.tables e below (T23.setTop (mkF m 194 #[.val (.int p1), .val (.int p2), .val (.long p3), .second, .val (.int p5), .val (.int p6), .val (.int p7), .val (.int z2), .val (.int (p1 &&& (1073741823 : Int32))), .val (.ref b3), .val (.ref nb5), .val (.int y7), .val (.int z10), .val (.int (((p5.toUInt32 >>> ((16 : Int32) &&& 31).toUInt32).toInt32) &&& (15 : Int32))), .val (.int ((1 : Int32) + (((p5.toUInt32 >>> ((20 : Int32) &&& 31).toUInt32).toInt32) &&& (15 : Int32)))), .unset, .unset, .unset] [(.int z10), (.int (64 : Int32)), (.long (p3 <<< (((64 : Int32) - z10) &&& 0x3f).toInt64))])) _
      refine XS.isub X23.here hx rfl (hb hby at_194) rfl ?_
      show Steps p.tables e below (T23.setTop (mkF m 195 #[.val (.int p1), .val (.int p2), .val (.long p3), .second, .val (.int p5), .val (.int p6), .val (.int p7), .val (.int z2), .val (.int (p1 &&& (1073741823 : Int32))), .val (.ref b3), .val (.ref nb5), .val (.int y7), .val (.int z10), .val (.int (((p5.toUInt32 >>> ((16 : Int32) &&& 31).toUInt32).toInt32) &&& (15 : Int32))), .val (.int ((1 : Int32) + (((p5.toUInt32 >>> ((20 : Int32) &&& 31).toUInt32).toInt32) &&& (15 : Int32)))), .unset, .unset, .unset] [(.int ((64 : Int32) - z10)), (.long (p3 <<< (((64 : Int32) - z10) &&& 0x3f).toInt64))])) _
      refine XS.lushr X23.here hx rfl (hb hby at_195) rfl ?_
      show Steps p.tables e below (T23.setTop (mkF m 196 #[.val (.int p1), .val (.int p2), .val (.long p3), .second, .val (.int p5), .val (.int p6), .val (.int p7), .val (.int z2), .val (.int (p1 &&& (1073741823 : Int32))), .val (.ref b3), .val (.ref nb5), .val (.int y7), .val (.int z10), .val (.int (((p5.toUInt32 >>> ((16 : Int32) &&& 31).toUInt32).toInt32) &&& (15 : Int32))), .val (.int ((1 : Int32) + (((p5.toUInt32 >>> ((20 : Int32) &&& 31).toUInt32).toInt32) &&& (15 : Int32)))), .unset, .unset, .unset] [(.long (((p3 <<< (((64 : Int32) - z10) &&& 0x3f).toInt64).toUInt64 >>> (((64 : Int32) - z10) &&& 0x3f).toInt64.toUInt64).toInt64))])) _
      exact k
  show Go p.tables e below T23 (mkF m 196 #[.val (.int p1), .val (.int p2), .val (.long p3), .second, .val (.int p5), .val (.int p6), .val (.int p7), .val (.int z2), .val (.int (p1 &&& (1073741823 : Int32))), .val (.ref b3), .val (.ref nb5), .val (.int y7), .val (.int z10), .val (.int (((p5.toUInt32 >>> ((16 : Int32) &&& 31).toUInt32).toInt32) &&& (15 : Int32))), .val (.int ((1 : Int32) + (((p5.toUInt32 >>> ((20 : Int32) &&& 31).toUInt32).toInt32) &&& (15 : Int32)))), .unset, .unset, .unset] [(.long (if z10 = (0 : Int32) then (0 : Int64) else (((p3 <<< (((64 : Int32) - z10) &&& 0x3f).toInt64).toUInt64 >>> (((64 : Int32) - z10) &&& 0x3f).toInt64.toUInt64).toInt64)))]) _
  obtain ⟨z25, hz25⟩ : ∃ z : Int64, z = (if z10 = (0 : Int32) then (0 : Int64) else (((p3 <<< (((64 : Int32) - z10) &&& 0x3f).toInt64).toUInt64 >>> (((64 : Int32) - z10) &&& 0x3f).toInt64.toUInt64).toInt64)) := ⟨_, rfl⟩
  rw [← hz25]
  show Go p.tables e below T23 (mkF m 196 #[.val (.int p1), .val (.int p2), .val (.long p3), .second, .val (.int p5), .val (.int p6), .val (.int p7), .val (.int z2), .val (.int (p1 &&& (1073741823 : Int32))), .val (.ref b3), .val (.ref nb5), .val (.int y7), .val (.int z10), .val (.int (((p5.toUInt32 >>> ((16 : Int32) &&& 31).toUInt32).toInt32) &&& (15 : Int32))), .val (.int ((1 : Int32) + (((p5.toUInt32 >>> ((20 : Int32) &&& 31).toUInt32).toInt32) &&& (15 : Int32)))), .unset, .unset, .unset] [(.long z25)]) _
  refine go1 (fun _ => XS.lstore X23.here hx rfl (hb hby at_196) rfl (l' := #[.val (.int p1), .val (.int p2), .val (.long p3), .second, .val (.int p5), .val (.int p6), .val (.int p7), .val (.int z2), .val (.int (p1 &&& (1073741823 : Int32))), .val (.ref b3), .val (.ref nb5), .val (.int y7), .val (.int z10), .val (.int (((p5.toUInt32 >>> ((16 : Int32) &&& 31).toUInt32).toInt32) &&& (15 : Int32))), .val (.int ((1 : Int32) + (((p5.toUInt32 >>> ((20 : Int32) &&& 31).toUInt32).toInt32) &&& (15 : Int32)))), .val (.long z25), .second, .unset]) rfl) ?_
  show Go p.tables e below T23 (mkF m 198 #[.val (.int p1), .val (.int p2), .val (.long p3), .second, .val (.int p5), .val (.int p6), .val (.int p7), .val (.int z2), .val (.int (p1 &&& (1073741823 : Int32))), .val (.ref b3), .val (.ref nb5), .val (.int y7), .val (.int z10), .val (.int (((p5.toUInt32 >>> ((16 : Int32) &&& 31).toUInt32).toInt32) &&& (15 : Int32))), .val (.int ((1 : Int32) + (((p5.toUInt32 >>> ((20 : Int32) &&& 31).toUInt32).toInt32) &&& (15 : Int32)))), .val (.long z25), .second, .unset] []) _
  refine go1 (fun _ => XS.iload X23.here hx rfl (hb hby at_198) rfl) ?_
  show Go p.tables e below T23 (mkF m 200 #[.val (.int p1), .val (.int p2), .val (.long p3), .second, .val (.int p5), .val (.int p6), .val (.int p7), .val (.int z2), .val (.int (p1 &&& (1073741823 : Int32))), .val (.ref b3), .val (.ref nb5), .val (.int y7), .val (.int z10), .val (.int (((p5.toUInt32 >>> ((16 : Int32) &&& 31).toUInt32).toInt32) &&& (15 : Int32))), .val (.int ((1 : Int32) + (((p5.toUInt32 >>> ((20 : Int32) &&& 31).toUInt32).toInt32) &&& (15 : Int32)))), .val (.long z25), .second, .unset] [(.int z10)]) _
  refine go1 (T' := T23) (g' := (mkF m 221 #[.val (.int p1), .val (.int p2), .val (.long p3), .second, .val (.int p5), .val (.int p6), .val (.int p7), .val (.int z2), .val (.int (p1 &&& (1073741823 : Int32))), .val (.ref b3), .val (.ref nb5), .val (.int y7), .val (.int z10), .val (.int (((p5.toUInt32 >>> ((16 : Int32) &&& 31).toUInt32).toInt32) &&& (15 : Int32))), .val (.int ((1 : Int32) + (((p5.toUInt32 >>> ((20 : Int32) &&& 31).toUInt32).toInt32) &&& (15 : Int32)))), .val (.long z25), .second, .unset] [(.int (if (0 : Int32) < z10 then (if (((p3.toUInt64 >>> ((z10 - (1 : Int32)) &&& 0x3f).toInt64.toUInt64).toInt64) &&& (1 : Int64)) = (1 : Int64) then (1 : Int32) else (0 : Int32)) else (0 : Int32)))])) (fun t k => ?_) ?_
  · by_cases hd26 : (0 : Int32) < z10
    · skip
      rw [(if_pos hd26 : (if (0 : Int32) < z10 then (if (((p3.toUInt64 >>> ((z10 - (1 : Int32)) &&& 0x3f).toInt64.toUInt64).toInt64) &&& (1 : Int64)) = (1 : Int64) then (1 : Int32) else (0 : Int32)) else (0 : Int32)) = (if (((p3.toUInt64 >>> ((z10 - (1 : Int32)) &&& 0x3f).toInt64.toUInt64).toInt64) &&& (1 : Int64)) = (1 : Int64) then (1 : Int32) else (0 : Int32)))] at k
      show Steps p.tables e below (T23.setTop (mkF m 200 #[.val (.int p1), .val (.int p2), .val (.long p3), .second, .val (.int p5), .val (.int p6), .val (.int p7), .val (.int z2), .val (.int (p1 &&& (1073741823 : Int32))), .val (.ref b3), .val (.ref nb5), .val (.int y7), .val (.int z10), .val (.int (((p5.toUInt32 >>> ((16 : Int32) &&& 31).toUInt32).toInt32) &&& (15 : Int32))), .val (.int ((1 : Int32) + (((p5.toUInt32 >>> ((20 : Int32) &&& 31).toUInt32).toInt32) &&& (15 : Int32)))), .val (.long z25), .second, .unset] [(.int z10)])) _
      refine XS.ifNo X23.here hx rfl (hb hby at_200) rfl ((if0 _ _).trans (tlt hd26).2.2.2) ?_
      show Steps p.tables e below (T23.setTop (mkF m 203 #[.val (.int p1), .val (.int p2), .val (.long p3), .second, .val (.int p5), .val (.int p6), .val (.int p7), .val (.int z2), .val (.int (p1 &&& (1073741823 : Int32))), .val (.ref b3), .val (.ref nb5), .val (.int y7), .val (.int z10), .val (.int (((p5.toUInt32 >>> ((16 : Int32) &&& 31).toUInt32).toInt32) &&& (15 : Int32))), .val (.int ((1 : Int32) + (((p5.toUInt32 >>> ((20 : Int32) &&& 31).toUInt32).toInt32) &&& (15 : Int32)))), .val (.long z25), .second, .unset] [])) _
      refine XS.lloadN X23.here hx rfl (hb hby at_203) rfl ?_
      show Steps p.tables e below (T23.setTop (mkF m 204 #[.val (.int p1), .val (.int p2), .val (.long p3), .second, .val (.int p5), .val (.int p6), .val (.int p7), .val (.int z2), .val (.int (p1 &&& (1073741823 : Int32))), .val (.ref b3), .val (.ref nb5), .val (.int y7), .val (.int z10), .val (.int (((p5.toUInt32 >>> ((16 : Int32) &&& 31).toUInt32).toInt32) &&& (15 : Int32))), .val (.int ((1 : Int32) + (((p5.toUInt32 >>> ((20 : Int32) &&& 31).toUInt32).toInt32) &&& (15 : Int32)))), .val (.long z25), .second, .unset] [(.long p3)])) _
      refine XS.iload X23.here hx rfl (hb hby at_204) rfl ?_
      show Steps p.tables e below (T23.setTop (mkF m 206 #[.val (.int p1), .val (.int p2), .val (.long p3), .second, .val (.int p5), .val (.int p6), .val (.int p7), .val (.int z2), .val (.int (p1 &&& (1073741823 : Int32))), .val (.ref b3), .val (.ref nb5), .val (.int y7), .val (.int z10), .val (.int (((p5.toUInt32 >>> ((16 : Int32) &&& 31).toUInt32).toInt32) &&& (15 : Int32))), .val (.int ((1 : Int32) + (((p5.toUInt32 >>> ((20 : Int32) &&& 31).toUInt32).toInt32) &&& (15 : Int32)))), .val (.long z25), .second, .unset] [(.int z10), (.long p3)])) _
      refine XS.iconst X23.here hx rfl (hb hby at_206) ?_
      show Steps p.tables e below (T23.setTop (mkF m 207 #[.val (.int p1), .val (.int p2), .val (.long p3), .second, .val (.int p5), .val (.int p6), .val (.int p7), .val (.int z2), .val (.int (p1 &&& (1073741823 : Int32))), .val (.ref b3), .val (.ref nb5), .val (.int y7), .val (.int z10), .val (.int (((p5.toUInt32 >>> ((16 : Int32) &&& 31).toUInt32).toInt32) &&& (15 : Int32))), .val (.int ((1 : Int32) + (((p5.toUInt32 >>> ((20 : Int32) &&& 31).toUInt32).toInt32) &&& (15 : Int32)))), .val (.long z25), .second, .unset] [(.int (1 : Int32)), (.int z10), (.long p3)])) _
      refine XS.isub X23.here hx rfl (hb hby at_207) rfl ?_
      show Steps p.tables e below (T23.setTop (mkF m 208 #[.val (.int p1), .val (.int p2), .val (.long p3), .second, .val (.int p5), .val (.int p6), .val (.int p7), .val (.int z2), .val (.int (p1 &&& (1073741823 : Int32))), .val (.ref b3), .val (.ref nb5), .val (.int y7), .val (.int z10), .val (.int (((p5.toUInt32 >>> ((16 : Int32) &&& 31).toUInt32).toInt32) &&& (15 : Int32))), .val (.int ((1 : Int32) + (((p5.toUInt32 >>> ((20 : Int32) &&& 31).toUInt32).toInt32) &&& (15 : Int32)))), .val (.long z25), .second, .unset] [(.int (z10 - (1 : Int32))), (.long p3)])) _
      refine XS.lushr X23.here hx rfl (hb hby at_208) rfl ?_
      show Steps p.tables e below (T23.setTop (mkF m 209 #[.val (.int p1), .val (.int p2), .val (.long p3), .second, .val (.int p5), .val (.int p6), .val (.int p7), .val (.int z2), .val (.int (p1 &&& (1073741823 : Int32))), .val (.ref b3), .val (.ref nb5), .val (.int y7), .val (.int z10), .val (.int (((p5.toUInt32 >>> ((16 : Int32) &&& 31).toUInt32).toInt32) &&& (15 : Int32))), .val (.int ((1 : Int32) + (((p5.toUInt32 >>> ((20 : Int32) &&& 31).toUInt32).toInt32) &&& (15 : Int32)))), .val (.long z25), .second, .unset] [(.long ((p3.toUInt64 >>> ((z10 - (1 : Int32)) &&& 0x3f).toInt64.toUInt64).toInt64))])) _
      refine XS.lconst X23.here hx rfl (hb hby at_209) ?_
      show Steps p.tables e below (T23.setTop (mkF m 210 #[.val (.int p1), .val (.int p2), .val (.long p3), .second, .val (.int p5), .val (.int p6), .val (.int p7), .val (.int z2), .val (.int (p1 &&& (1073741823 : Int32))), .val (.ref b3), .val (.ref nb5), .val (.int y7), .val (.int z10), .val (.int (((p5.toUInt32 >>> ((16 : Int32) &&& 31).toUInt32).toInt32) &&& (15 : Int32))), .val (.int ((1 : Int32) + (((p5.toUInt32 >>> ((20 : Int32) &&& 31).toUInt32).toInt32) &&& (15 : Int32)))), .val (.long z25), .second, .unset] [(.long (1 : Int64)), (.long ((p3.toUInt64 >>> ((z10 - (1 : Int32)) &&& 0x3f).toInt64.toUInt64).toInt64))])) _
      refine XS.land X23.here hx rfl (hb hby at_210) rfl ?_
      show Steps p.tables e below (T23.setTop (mkF m 211 #[.val (.int p1), .val (.int p2), .val (.long p3), .second, .val (.int p5), .val (.int p6), .val (.int p7), .val (.int z2), .val (.int (p1 &&& (1073741823 : Int32))), .val (.ref b3), .val (.ref nb5), .val (.int y7), .val (.int z10), .val (.int (((p5.toUInt32 >>> ((16 : Int32) &&& 31).toUInt32).toInt32) &&& (15 : Int32))), .val (.int ((1 : Int32) + (((p5.toUInt32 >>> ((20 : Int32) &&& 31).toUInt32).toInt32) &&& (15 : Int32)))), .val (.long z25), .second, .unset] [(.long (((p3.toUInt64 >>> ((z10 - (1 : Int32)) &&& 0x3f).toInt64.toUInt64).toInt64) &&& (1 : Int64)))])) _
      refine XS.lconst X23.here hx rfl (hb hby at_211) ?_
      show Steps p.tables e below (T23.setTop (mkF m 212 #[.val (.int p1), .val (.int p2), .val (.long p3), .second, .val (.int p5), .val (.int p6), .val (.int p7), .val (.int z2), .val (.int (p1 &&& (1073741823 : Int32))), .val (.ref b3), .val (.ref nb5), .val (.int y7), .val (.int z10), .val (.int (((p5.toUInt32 >>> ((16 : Int32) &&& 31).toUInt32).toInt32) &&& (15 : Int32))), .val (.int ((1 : Int32) + (((p5.toUInt32 >>> ((20 : Int32) &&& 31).toUInt32).toInt32) &&& (15 : Int32)))), .val (.long z25), .second, .unset] [(.long (1 : Int64)), (.long (((p3.toUInt64 >>> ((z10 - (1 : Int32)) &&& 0x3f).toInt64.toUInt64).toInt64) &&& (1 : Int64)))])) _
      refine XS.lcmp X23.here hx rfl (hb hby at_212) rfl ?_
      show Steps p.tables e below (T23.setTop (mkF m 213 #[.val (.int p1), .val (.int p2), .val (.long p3), .second, .val (.int p5), .val (.int p6), .val (.int p7), .val (.int z2), .val (.int (p1 &&& (1073741823 : Int32))), .val (.ref b3), .val (.ref nb5), .val (.int y7), .val (.int z10), .val (.int (((p5.toUInt32 >>> ((16 : Int32) &&& 31).toUInt32).toInt32) &&& (15 : Int32))), .val (.int ((1 : Int32) + (((p5.toUInt32 >>> ((20 : Int32) &&& 31).toUInt32).toInt32) &&& (15 : Int32)))), .val (.long z25), .second, .unset] [(.int (lcmpW (((p3.toUInt64 >>> ((z10 - (1 : Int32)) &&& 0x3f).toInt64.toUInt64).toInt64) &&& (1 : Int64)) (1 : Int64)))])) _
      refine stp (T' := T23) (g' := (mkF m 221 #[.val (.int p1), .val (.int p2), .val (.long p3), .second, .val (.int p5), .val (.int p6), .val (.int p7), .val (.int z2), .val (.int (p1 &&& (1073741823 : Int32))), .val (.ref b3), .val (.ref nb5), .val (.int y7), .val (.int z10), .val (.int (((p5.toUInt32 >>> ((16 : Int32) &&& 31).toUInt32).toInt32) &&& (15 : Int32))), .val (.int ((1 : Int32) + (((p5.toUInt32 >>> ((20 : Int32) &&& 31).toUInt32).toInt32) &&& (15 : Int32)))), .val (.long z25), .second, .unset] [(.int (if (((p3.toUInt64 >>> ((z10 - (1 : Int32)) &&& 0x3f).toInt64.toUInt64).toInt64) &&& (1 : Int64)) = (1 : Int64) then (1 : Int32) else (0 : Int32)))])) (fun t k => ?_) ?_
      · by_cases hd27 : (((p3.toUInt64 >>> ((z10 - (1 : Int32)) &&& 0x3f).toInt64.toUInt64).toInt64) &&& (1 : Int64)) = (1 : Int64)
        · skip
          rw [(if_pos hd27 : (if (((p3.toUInt64 >>> ((z10 - (1 : Int32)) &&& 0x3f).toInt64.toUInt64).toInt64) &&& (1 : Int64)) = (1 : Int64) then (1 : Int32) else (0 : Int32)) = (1 : Int32))] at k
          show Steps p.tables e below (T23.setTop (mkF m 213 #[.val (.int p1), .val (.int p2), .val (.long p3), .second, .val (.int p5), .val (.int p6), .val (.int p7), .val (.int z2), .val (.int (p1 &&& (1073741823 : Int32))), .val (.ref b3), .val (.ref nb5), .val (.int y7), .val (.int z10), .val (.int (((p5.toUInt32 >>> ((16 : Int32) &&& 31).toUInt32).toInt32) &&& (15 : Int32))), .val (.int ((1 : Int32) + (((p5.toUInt32 >>> ((20 : Int32) &&& 31).toUInt32).toInt32) &&& (15 : Int32)))), .val (.long z25), .second, .unset] [(.int (lcmpW (((p3.toUInt64 >>> ((z10 - (1 : Int32)) &&& 0x3f).toInt64.toUInt64).toInt64) &&& (1 : Int64)) (1 : Int64)))])) _
          refine XS.ifNo X23.here hx rfl (hb hby at_213) rfl ((if0 _ _).trans (teq ((lw_eq _ _).mpr hd27)).2) ?_
          show Steps p.tables e below (T23.setTop (mkF m 216 #[.val (.int p1), .val (.int p2), .val (.long p3), .second, .val (.int p5), .val (.int p6), .val (.int p7), .val (.int z2), .val (.int (p1 &&& (1073741823 : Int32))), .val (.ref b3), .val (.ref nb5), .val (.int y7), .val (.int z10), .val (.int (((p5.toUInt32 >>> ((16 : Int32) &&& 31).toUInt32).toInt32) &&& (15 : Int32))), .val (.int ((1 : Int32) + (((p5.toUInt32 >>> ((20 : Int32) &&& 31).toUInt32).toInt32) &&& (15 : Int32)))), .val (.long z25), .second, .unset] [])) _
          refine XS.iconst X23.here hx rfl (hb hby at_216) ?_
          show Steps p.tables e below (T23.setTop (mkF m 217 #[.val (.int p1), .val (.int p2), .val (.long p3), .second, .val (.int p5), .val (.int p6), .val (.int p7), .val (.int z2), .val (.int (p1 &&& (1073741823 : Int32))), .val (.ref b3), .val (.ref nb5), .val (.int y7), .val (.int z10), .val (.int (((p5.toUInt32 >>> ((16 : Int32) &&& 31).toUInt32).toInt32) &&& (15 : Int32))), .val (.int ((1 : Int32) + (((p5.toUInt32 >>> ((20 : Int32) &&& 31).toUInt32).toInt32) &&& (15 : Int32)))), .val (.long z25), .second, .unset] [(.int (1 : Int32))])) _
          refine XS.goto X23.here hx rfl (pc0 := 217) (pc' := 221) rfl (hb hby at_217) (by decide) (by decide) ?_
          show Steps p.tables e below (T23.setTop (mkF m 221 #[.val (.int p1), .val (.int p2), .val (.long p3), .second, .val (.int p5), .val (.int p6), .val (.int p7), .val (.int z2), .val (.int (p1 &&& (1073741823 : Int32))), .val (.ref b3), .val (.ref nb5), .val (.int y7), .val (.int z10), .val (.int (((p5.toUInt32 >>> ((16 : Int32) &&& 31).toUInt32).toInt32) &&& (15 : Int32))), .val (.int ((1 : Int32) + (((p5.toUInt32 >>> ((20 : Int32) &&& 31).toUInt32).toInt32) &&& (15 : Int32)))), .val (.long z25), .second, .unset] [(.int (1 : Int32))])) _
          exact k
        · skip
          rw [(if_neg hd27 : (if (((p3.toUInt64 >>> ((z10 - (1 : Int32)) &&& 0x3f).toInt64.toUInt64).toInt64) &&& (1 : Int64)) = (1 : Int64) then (1 : Int32) else (0 : Int32)) = (0 : Int32))] at k
          show Steps p.tables e below (T23.setTop (mkF m 213 #[.val (.int p1), .val (.int p2), .val (.long p3), .second, .val (.int p5), .val (.int p6), .val (.int p7), .val (.int z2), .val (.int (p1 &&& (1073741823 : Int32))), .val (.ref b3), .val (.ref nb5), .val (.int y7), .val (.int z10), .val (.int (((p5.toUInt32 >>> ((16 : Int32) &&& 31).toUInt32).toInt32) &&& (15 : Int32))), .val (.int ((1 : Int32) + (((p5.toUInt32 >>> ((20 : Int32) &&& 31).toUInt32).toInt32) &&& (15 : Int32)))), .val (.long z25), .second, .unset] [(.int (lcmpW (((p3.toUInt64 >>> ((z10 - (1 : Int32)) &&& 0x3f).toInt64.toUInt64).toInt64) &&& (1 : Int64)) (1 : Int64)))])) _
          refine XS.ifYes X23.here hx rfl (pc0 := 213) (pc' := 220) rfl (hb hby at_213) rfl ((if0 _ _).trans (feq (mt (lw_eq _ _).mp hd27)).2) (by decide) (by decide) ?_
          show Steps p.tables e below (T23.setTop (mkF m 220 #[.val (.int p1), .val (.int p2), .val (.long p3), .second, .val (.int p5), .val (.int p6), .val (.int p7), .val (.int z2), .val (.int (p1 &&& (1073741823 : Int32))), .val (.ref b3), .val (.ref nb5), .val (.int y7), .val (.int z10), .val (.int (((p5.toUInt32 >>> ((16 : Int32) &&& 31).toUInt32).toInt32) &&& (15 : Int32))), .val (.int ((1 : Int32) + (((p5.toUInt32 >>> ((20 : Int32) &&& 31).toUInt32).toInt32) &&& (15 : Int32)))), .val (.long z25), .second, .unset] [])) _
          refine XS.iconst X23.here hx rfl (hb hby at_220) ?_
          show Steps p.tables e below (T23.setTop (mkF m 221 #[.val (.int p1), .val (.int p2), .val (.long p3), .second, .val (.int p5), .val (.int p6), .val (.int p7), .val (.int z2), .val (.int (p1 &&& (1073741823 : Int32))), .val (.ref b3), .val (.ref nb5), .val (.int y7), .val (.int z10), .val (.int (((p5.toUInt32 >>> ((16 : Int32) &&& 31).toUInt32).toInt32) &&& (15 : Int32))), .val (.int ((1 : Int32) + (((p5.toUInt32 >>> ((20 : Int32) &&& 31).toUInt32).toInt32) &&& (15 : Int32)))), .val (.long z25), .second, .unset] [(.int (0 : Int32))])) _
          exact k
      show Steps p.tables e below (T23.setTop (mkF m 221 #[.val (.int p1), .val (.int p2), .val (.long p3), .second, .val (.int p5), .val (.int p6), .val (.int p7), .val (.int z2), .val (.int (p1 &&& (1073741823 : Int32))), .val (.ref b3), .val (.ref nb5), .val (.int y7), .val (.int z10), .val (.int (((p5.toUInt32 >>> ((16 : Int32) &&& 31).toUInt32).toInt32) &&& (15 : Int32))), .val (.int ((1 : Int32) + (((p5.toUInt32 >>> ((20 : Int32) &&& 31).toUInt32).toInt32) &&& (15 : Int32)))), .val (.long z25), .second, .unset] [(.int (if (((p3.toUInt64 >>> ((z10 - (1 : Int32)) &&& 0x3f).toInt64.toUInt64).toInt64) &&& (1 : Int64)) = (1 : Int64) then (1 : Int32) else (0 : Int32)))])) _
      exact k
    · skip
      rw [(if_neg hd26 : (if (0 : Int32) < z10 then (if (((p3.toUInt64 >>> ((z10 - (1 : Int32)) &&& 0x3f).toInt64.toUInt64).toInt64) &&& (1 : Int64)) = (1 : Int64) then (1 : Int32) else (0 : Int32)) else (0 : Int32)) = (0 : Int32))] at k
      show Steps p.tables e below (T23.setTop (mkF m 200 #[.val (.int p1), .val (.int p2), .val (.long p3), .second, .val (.int p5), .val (.int p6), .val (.int p7), .val (.int z2), .val (.int (p1 &&& (1073741823 : Int32))), .val (.ref b3), .val (.ref nb5), .val (.int y7), .val (.int z10), .val (.int (((p5.toUInt32 >>> ((16 : Int32) &&& 31).toUInt32).toInt32) &&& (15 : Int32))), .val (.int ((1 : Int32) + (((p5.toUInt32 >>> ((20 : Int32) &&& 31).toUInt32).toInt32) &&& (15 : Int32)))), .val (.long z25), .second, .unset] [(.int z10)])) _
      refine XS.ifYes X23.here hx rfl (pc0 := 200) (pc' := 220) rfl (hb hby at_200) rfl ((if0 _ _).trans (flt hd26).2.2.2) (by decide) (by decide) ?_
      show Steps p.tables e below (T23.setTop (mkF m 220 #[.val (.int p1), .val (.int p2), .val (.long p3), .second, .val (.int p5), .val (.int p6), .val (.int p7), .val (.int z2), .val (.int (p1 &&& (1073741823 : Int32))), .val (.ref b3), .val (.ref nb5), .val (.int y7), .val (.int z10), .val (.int (((p5.toUInt32 >>> ((16 : Int32) &&& 31).toUInt32).toInt32) &&& (15 : Int32))), .val (.int ((1 : Int32) + (((p5.toUInt32 >>> ((20 : Int32) &&& 31).toUInt32).toInt32) &&& (15 : Int32)))), .val (.long z25), .second, .unset] [])) _
      refine XS.iconst X23.here hx rfl (hb hby at_220) ?_
      show Steps p.tables e below (T23.setTop (mkF m 221 #[.val (.int p1), .val (.int p2), .val (.long p3), .second, .val (.int p5), .val (.int p6), .val (.int p7), .val (.int z2), .val (.int (p1 &&& (1073741823 : Int32))), .val (.ref b3), .val (.ref nb5), .val (.int y7), .val (.int z10), .val (.int (((p5.toUInt32 >>> ((16 : Int32) &&& 31).toUInt32).toInt32) &&& (15 : Int32))), .val (.int ((1 : Int32) + (((p5.toUInt32 >>> ((20 : Int32) &&& 31).toUInt32).toInt32) &&& (15 : Int32)))), .val (.long z25), .second, .unset] [(.int (0 : Int32))])) _
      exact k
  show Go p.tables e below T23 (mkF m 221 #[.val (.int p1), .val (.int p2), .val (.long p3), .second, .val (.int p5), .val (.int p6), .val (.int p7), .val (.int z2), .val (.int (p1 &&& (1073741823 : Int32))), .val (.ref b3), .val (.ref nb5), .val (.int y7), .val (.int z10), .val (.int (((p5.toUInt32 >>> ((16 : Int32) &&& 31).toUInt32).toInt32) &&& (15 : Int32))), .val (.int ((1 : Int32) + (((p5.toUInt32 >>> ((20 : Int32) &&& 31).toUInt32).toInt32) &&& (15 : Int32)))), .val (.long z25), .second, .unset] [(.int (if (0 : Int32) < z10 then (if (((p3.toUInt64 >>> ((z10 - (1 : Int32)) &&& 0x3f).toInt64.toUInt64).toInt64) &&& (1 : Int64)) = (1 : Int64) then (1 : Int32) else (0 : Int32)) else (0 : Int32)))]) _
  obtain ⟨z28, hz28⟩ : ∃ z : Int32, z = (if (0 : Int32) < z10 then (if (((p3.toUInt64 >>> ((z10 - (1 : Int32)) &&& 0x3f).toInt64.toUInt64).toInt64) &&& (1 : Int64)) = (1 : Int64) then (1 : Int32) else (0 : Int32)) else (0 : Int32)) := ⟨_, rfl⟩
  rw [← hz28]
  show Go p.tables e below T23 (mkF m 221 #[.val (.int p1), .val (.int p2), .val (.long p3), .second, .val (.int p5), .val (.int p6), .val (.int p7), .val (.int z2), .val (.int (p1 &&& (1073741823 : Int32))), .val (.ref b3), .val (.ref nb5), .val (.int y7), .val (.int z10), .val (.int (((p5.toUInt32 >>> ((16 : Int32) &&& 31).toUInt32).toInt32) &&& (15 : Int32))), .val (.int ((1 : Int32) + (((p5.toUInt32 >>> ((20 : Int32) &&& 31).toUInt32).toInt32) &&& (15 : Int32)))), .val (.long z25), .second, .unset] [(.int z28)]) _
  refine go1 (fun _ => XS.istore X23.here hx rfl (hb hby at_221) rfl (l' := #[.val (.int p1), .val (.int p2), .val (.long p3), .second, .val (.int p5), .val (.int p6), .val (.int p7), .val (.int z2), .val (.int (p1 &&& (1073741823 : Int32))), .val (.ref b3), .val (.ref nb5), .val (.int y7), .val (.int z10), .val (.int (((p5.toUInt32 >>> ((16 : Int32) &&& 31).toUInt32).toInt32) &&& (15 : Int32))), .val (.int ((1 : Int32) + (((p5.toUInt32 >>> ((20 : Int32) &&& 31).toUInt32).toInt32) &&& (15 : Int32)))), .val (.long z25), .second, .val (.int z28)]) rfl) ?_
  show Go p.tables e below T23 (mkF m 223 #[.val (.int p1), .val (.int p2), .val (.long p3), .second, .val (.int p5), .val (.int p6), .val (.int p7), .val (.int z2), .val (.int (p1 &&& (1073741823 : Int32))), .val (.ref b3), .val (.ref nb5), .val (.int y7), .val (.int z10), .val (.int (((p5.toUInt32 >>> ((16 : Int32) &&& 31).toUInt32).toInt32) &&& (15 : Int32))), .val (.int ((1 : Int32) + (((p5.toUInt32 >>> ((20 : Int32) &&& 31).toUInt32).toInt32) &&& (15 : Int32)))), .val (.long z25), .second, .val (.int z28)] []) _
  refine go1 (fun _ => XS.aload X23.here hx rfl (hb hby at_223) rfl rfl) ?_
  show Go p.tables e below T23 (mkF m 225 #[.val (.int p1), .val (.int p2), .val (.long p3), .second, .val (.int p5), .val (.int p6), .val (.int p7), .val (.int z2), .val (.int (p1 &&& (1073741823 : Int32))), .val (.ref b3), .val (.ref nb5), .val (.int y7), .val (.int z10), .val (.int (((p5.toUInt32 >>> ((16 : Int32) &&& 31).toUInt32).toInt32) &&& (15 : Int32))), .val (.int ((1 : Int32) + (((p5.toUInt32 >>> ((20 : Int32) &&& 31).toUInt32).toInt32) &&& (15 : Int32)))), .val (.long z25), .second, .val (.int z28)] [(.ref b3)]) _
  obtain ⟨T29, X29, e29, st29⟩ := getF X23 hx hZ hown (host := "") (Or.inl (hw _ (List.mem_of_getElem? (i := 33) rfl))) Via.refl rfl G23_1 (g := (mkF m 225 #[.val (.int p1), .val (.int p2), .val (.long p3), .second, .val (.int p5), .val (.int p6), .val (.int p7), .val (.int z2), .val (.int (p1 &&& (1073741823 : Int32))), .val (.ref b3), .val (.ref nb5), .val (.int y7), .val (.int z10), .val (.int (((p5.toUInt32 >>> ((16 : Int32) &&& 31).toUInt32).toInt32) &&& (15 : Int32))), .val (.int ((1 : Int32) + (((p5.toUInt32 >>> ((20 : Int32) &&& 31).toUInt32).toInt32) &&& (15 : Int32)))), .val (.long z25), .second, .val (.int z28)] [(.ref b3)])) rfl rfl (hb hby at_225)
  refine go1 st29 ?_
  show Go p.tables e below T29 (mkF m 228 #[.val (.int p1), .val (.int p2), .val (.long p3), .second, .val (.int p5), .val (.int p6), .val (.int p7), .val (.int z2), .val (.int (p1 &&& (1073741823 : Int32))), .val (.ref b3), .val (.ref nb5), .val (.int y7), .val (.int z10), .val (.int (((p5.toUInt32 >>> ((16 : Int32) &&& 31).toUInt32).toInt32) &&& (15 : Int32))), .val (.int ((1 : Int32) + (((p5.toUInt32 >>> ((20 : Int32) &&& 31).toUInt32).toInt32) &&& (15 : Int32)))), .val (.long z25), .second, .val (.int z28)] [(.int z10)]) _
  refine go1 (fun _ => XS.iload X29.here hx rfl (hb hby at_228) rfl) ?_
  show Go p.tables e below T29 (mkF m 230 #[.val (.int p1), .val (.int p2), .val (.long p3), .second, .val (.int p5), .val (.int p6), .val (.int p7), .val (.int z2), .val (.int (p1 &&& (1073741823 : Int32))), .val (.ref b3), .val (.ref nb5), .val (.int y7), .val (.int z10), .val (.int (((p5.toUInt32 >>> ((16 : Int32) &&& 31).toUInt32).toInt32) &&& (15 : Int32))), .val (.int ((1 : Int32) + (((p5.toUInt32 >>> ((20 : Int32) &&& 31).toUInt32).toInt32) &&& (15 : Int32)))), .val (.long z25), .second, .val (.int z28)] [(.int z10), (.int z10)]) _
  refine go1 (fun _ => XS.icmpNo X29.here hx rfl (hb hby at_230) rfl (teq (rfl : z10 = z10)).2) ?_
  show Go p.tables e below T29 (mkF m 233 #[.val (.int p1), .val (.int p2), .val (.long p3), .second, .val (.int p5), .val (.int p6), .val (.int p7), .val (.int z2), .val (.int (p1 &&& (1073741823 : Int32))), .val (.ref b3), .val (.ref nb5), .val (.int y7), .val (.int z10), .val (.int (((p5.toUInt32 >>> ((16 : Int32) &&& 31).toUInt32).toInt32) &&& (15 : Int32))), .val (.int ((1 : Int32) + (((p5.toUInt32 >>> ((20 : Int32) &&& 31).toUInt32).toInt32) &&& (15 : Int32)))), .val (.long z25), .second, .val (.int z28)] []) _
  refine go1 (fun _ => XS.aload X29.here hx rfl (hb hby at_233) rfl rfl) ?_
  show Go p.tables e below T29 (mkF m 235 #[.val (.int p1), .val (.int p2), .val (.long p3), .second, .val (.int p5), .val (.int p6), .val (.int p7), .val (.int z2), .val (.int (p1 &&& (1073741823 : Int32))), .val (.ref b3), .val (.ref nb5), .val (.int y7), .val (.int z10), .val (.int (((p5.toUInt32 >>> ((16 : Int32) &&& 31).toUInt32).toInt32) &&& (15 : Int32))), .val (.int ((1 : Int32) + (((p5.toUInt32 >>> ((20 : Int32) &&& 31).toUInt32).toInt32) &&& (15 : Int32)))), .val (.long z25), .second, .val (.int z28)] [(.ref b3)]) _
  obtain ⟨T30, X30, e30, st30⟩ := getF X29 hx hZ hown (host := "") (Or.inl (hw _ (List.mem_of_getElem? (i := 31) rfl))) Via.refl e29 G23_2 (g := (mkF m 235 #[.val (.int p1), .val (.int p2), .val (.long p3), .second, .val (.int p5), .val (.int p6), .val (.int p7), .val (.int z2), .val (.int (p1 &&& (1073741823 : Int32))), .val (.ref b3), .val (.ref nb5), .val (.int y7), .val (.int z10), .val (.int (((p5.toUInt32 >>> ((16 : Int32) &&& 31).toUInt32).toInt32) &&& (15 : Int32))), .val (.int ((1 : Int32) + (((p5.toUInt32 >>> ((20 : Int32) &&& 31).toUInt32).toInt32) &&& (15 : Int32)))), .val (.long z25), .second, .val (.int z28)] [(.ref b3)])) rfl rfl (hb hby at_235)
  refine go1 st30 ?_
  show Go p.tables e below T30 (mkF m 238 #[.val (.int p1), .val (.int p2), .val (.long p3), .second, .val (.int p5), .val (.int p6), .val (.int p7), .val (.int z2), .val (.int (p1 &&& (1073741823 : Int32))), .val (.ref b3), .val (.ref nb5), .val (.int y7), .val (.int z10), .val (.int (((p5.toUInt32 >>> ((16 : Int32) &&& 31).toUInt32).toInt32) &&& (15 : Int32))), .val (.int ((1 : Int32) + (((p5.toUInt32 >>> ((20 : Int32) &&& 31).toUInt32).toInt32) &&& (15 : Int32)))), .val (.long z25), .second, .val (.int z28)] [(.long (p3 &&& (((1 : Int64) <<< (z10 &&& 0x3f).toInt64) - (1 : Int64))))]) _
  refine go1 (fun _ => XS.lload X30.here hx rfl (hb hby at_238) rfl) ?_
  show Go p.tables e below T30 (mkF m 240 #[.val (.int p1), .val (.int p2), .val (.long p3), .second, .val (.int p5), .val (.int p6), .val (.int p7), .val (.int z2), .val (.int (p1 &&& (1073741823 : Int32))), .val (.ref b3), .val (.ref nb5), .val (.int y7), .val (.int z10), .val (.int (((p5.toUInt32 >>> ((16 : Int32) &&& 31).toUInt32).toInt32) &&& (15 : Int32))), .val (.int ((1 : Int32) + (((p5.toUInt32 >>> ((20 : Int32) &&& 31).toUInt32).toInt32) &&& (15 : Int32)))), .val (.long z25), .second, .val (.int z28)] [(.long z25), (.long (p3 &&& (((1 : Int64) <<< (z10 &&& 0x3f).toInt64) - (1 : Int64))))]) _
  refine go1 (fun _ => XS.lcmp X30.here hx rfl (hb hby at_240) rfl) ?_
  show Go p.tables e below T30 (mkF m 241 #[.val (.int p1), .val (.int p2), .val (.long p3), .second, .val (.int p5), .val (.int p6), .val (.int p7), .val (.int z2), .val (.int (p1 &&& (1073741823 : Int32))), .val (.ref b3), .val (.ref nb5), .val (.int y7), .val (.int z10), .val (.int (((p5.toUInt32 >>> ((16 : Int32) &&& 31).toUInt32).toInt32) &&& (15 : Int32))), .val (.int ((1 : Int32) + (((p5.toUInt32 >>> ((20 : Int32) &&& 31).toUInt32).toInt32) &&& (15 : Int32)))), .val (.long z25), .second, .val (.int z28)] [(.int (lcmpW (p3 &&& (((1 : Int64) <<< (z10 &&& 0x3f).toInt64) - (1 : Int64))) z25))]) _
  refine go1 (fun _ => XS.ifNo X30.here hx rfl (hb hby at_241) rfl ((if0 _ _).trans (teq ((lw_eq _ _).mpr (by rw [hz25]; exact own_turn p3 z10 (own_ib p2 hz10 G4_14 G4_17)))).2)) ?_
  show Go p.tables e below T30 (mkF m 244 #[.val (.int p1), .val (.int p2), .val (.long p3), .second, .val (.int p5), .val (.int p6), .val (.int p7), .val (.int z2), .val (.int (p1 &&& (1073741823 : Int32))), .val (.ref b3), .val (.ref nb5), .val (.int y7), .val (.int z10), .val (.int (((p5.toUInt32 >>> ((16 : Int32) &&& 31).toUInt32).toInt32) &&& (15 : Int32))), .val (.int ((1 : Int32) + (((p5.toUInt32 >>> ((20 : Int32) &&& 31).toUInt32).toInt32) &&& (15 : Int32)))), .val (.long z25), .second, .val (.int z28)] []) _
  refine go1 (fun _ => XS.aload X30.here hx rfl (hb hby at_244) rfl rfl) ?_
  show Go p.tables e below T30 (mkF m 246 #[.val (.int p1), .val (.int p2), .val (.long p3), .second, .val (.int p5), .val (.int p6), .val (.int p7), .val (.int z2), .val (.int (p1 &&& (1073741823 : Int32))), .val (.ref b3), .val (.ref nb5), .val (.int y7), .val (.int z10), .val (.int (((p5.toUInt32 >>> ((16 : Int32) &&& 31).toUInt32).toInt32) &&& (15 : Int32))), .val (.int ((1 : Int32) + (((p5.toUInt32 >>> ((20 : Int32) &&& 31).toUInt32).toInt32) &&& (15 : Int32)))), .val (.long z25), .second, .val (.int z28)] [(.ref b3)]) _
  obtain ⟨T31, X31, e31, st31⟩ := getF X30 hx hZ hown (host := "") (Or.inl (hw _ (List.mem_of_getElem? (i := 35) rfl))) Via.refl e30 G23_3 (g := (mkF m 246 #[.val (.int p1), .val (.int p2), .val (.long p3), .second, .val (.int p5), .val (.int p6), .val (.int p7), .val (.int z2), .val (.int (p1 &&& (1073741823 : Int32))), .val (.ref b3), .val (.ref nb5), .val (.int y7), .val (.int z10), .val (.int (((p5.toUInt32 >>> ((16 : Int32) &&& 31).toUInt32).toInt32) &&& (15 : Int32))), .val (.int ((1 : Int32) + (((p5.toUInt32 >>> ((20 : Int32) &&& 31).toUInt32).toInt32) &&& (15 : Int32)))), .val (.long z25), .second, .val (.int z28)] [(.ref b3)])) rfl rfl (hb hby at_246)
  refine go1 st31 ?_
  show Go p.tables e below T31 (mkF m 249 #[.val (.int p1), .val (.int p2), .val (.long p3), .second, .val (.int p5), .val (.int p6), .val (.int p7), .val (.int z2), .val (.int (p1 &&& (1073741823 : Int32))), .val (.ref b3), .val (.ref nb5), .val (.int y7), .val (.int z10), .val (.int (((p5.toUInt32 >>> ((16 : Int32) &&& 31).toUInt32).toInt32) &&& (15 : Int32))), .val (.int ((1 : Int32) + (((p5.toUInt32 >>> ((20 : Int32) &&& 31).toUInt32).toInt32) &&& (15 : Int32)))), .val (.long z25), .second, .val (.int z28)] [(.int (own_left p3 z10))]) _
  refine go1 (fun _ => XS.iload X31.here hx rfl (hb hby at_249) rfl) ?_
  show Go p.tables e below T31 (mkF m 251 #[.val (.int p1), .val (.int p2), .val (.long p3), .second, .val (.int p5), .val (.int p6), .val (.int p7), .val (.int z2), .val (.int (p1 &&& (1073741823 : Int32))), .val (.ref b3), .val (.ref nb5), .val (.int y7), .val (.int z10), .val (.int (((p5.toUInt32 >>> ((16 : Int32) &&& 31).toUInt32).toInt32) &&& (15 : Int32))), .val (.int ((1 : Int32) + (((p5.toUInt32 >>> ((20 : Int32) &&& 31).toUInt32).toInt32) &&& (15 : Int32)))), .val (.long z25), .second, .val (.int z28)] [(.int z28), (.int (own_left p3 z10))]) _
  refine go1 (fun _ => XS.icmpNo X31.here hx rfl (hb hby at_251) rfl (teq (by rw [hz28]; exact own_lft p3 z10 (own_ib p2 hz10 G4_14 G4_17))).2) ?_
  show Go p.tables e below T31 (mkF m 254 #[.val (.int p1), .val (.int p2), .val (.long p3), .second, .val (.int p5), .val (.int p6), .val (.int p7), .val (.int z2), .val (.int (p1 &&& (1073741823 : Int32))), .val (.ref b3), .val (.ref nb5), .val (.int y7), .val (.int z10), .val (.int (((p5.toUInt32 >>> ((16 : Int32) &&& 31).toUInt32).toInt32) &&& (15 : Int32))), .val (.int ((1 : Int32) + (((p5.toUInt32 >>> ((20 : Int32) &&& 31).toUInt32).toInt32) &&& (15 : Int32)))), .val (.long z25), .second, .val (.int z28)] []) _
  refine go1 (fun _ => XS.aload X31.here hx rfl (hb hby at_254) rfl rfl) ?_
  show Go p.tables e below T31 (mkF m 256 #[.val (.int p1), .val (.int p2), .val (.long p3), .second, .val (.int p5), .val (.int p6), .val (.int p7), .val (.int z2), .val (.int (p1 &&& (1073741823 : Int32))), .val (.ref b3), .val (.ref nb5), .val (.int y7), .val (.int z10), .val (.int (((p5.toUInt32 >>> ((16 : Int32) &&& 31).toUInt32).toInt32) &&& (15 : Int32))), .val (.int ((1 : Int32) + (((p5.toUInt32 >>> ((20 : Int32) &&& 31).toUInt32).toInt32) &&& (15 : Int32)))), .val (.long z25), .second, .val (.int z28)] [(.ref b3)]) _
  obtain ⟨T32, X32, e32, st32⟩ := getF X31 hx hZ hown (host := "") (Or.inl (hw _ (List.mem_of_getElem? (i := 37) rfl))) Via.refl e31 G23_4 (g := (mkF m 256 #[.val (.int p1), .val (.int p2), .val (.long p3), .second, .val (.int p5), .val (.int p6), .val (.int p7), .val (.int z2), .val (.int (p1 &&& (1073741823 : Int32))), .val (.ref b3), .val (.ref nb5), .val (.int y7), .val (.int z10), .val (.int (((p5.toUInt32 >>> ((16 : Int32) &&& 31).toUInt32).toInt32) &&& (15 : Int32))), .val (.int ((1 : Int32) + (((p5.toUInt32 >>> ((20 : Int32) &&& 31).toUInt32).toInt32) &&& (15 : Int32)))), .val (.long z25), .second, .val (.int z28)] [(.ref b3)])) rfl rfl (hb hby at_256)
  refine go1 st32 ?_
  show Go p.tables e below T32 (mkF m 259 #[.val (.int p1), .val (.int p2), .val (.long p3), .second, .val (.int p5), .val (.int p6), .val (.int p7), .val (.int z2), .val (.int (p1 &&& (1073741823 : Int32))), .val (.ref b3), .val (.ref nb5), .val (.int y7), .val (.int z10), .val (.int (((p5.toUInt32 >>> ((16 : Int32) &&& 31).toUInt32).toInt32) &&& (15 : Int32))), .val (.int ((1 : Int32) + (((p5.toUInt32 >>> ((20 : Int32) &&& 31).toUInt32).toInt32) &&& (15 : Int32)))), .val (.long z25), .second, .val (.int z28)] [(.int (z10 + (1 : Int32)))]) _
  refine go1 (fun _ => XS.iload X32.here hx rfl (hb hby at_259) rfl) ?_
  show Go p.tables e below T32 (mkF m 261 #[.val (.int p1), .val (.int p2), .val (.long p3), .second, .val (.int p5), .val (.int p6), .val (.int p7), .val (.int z2), .val (.int (p1 &&& (1073741823 : Int32))), .val (.ref b3), .val (.ref nb5), .val (.int y7), .val (.int z10), .val (.int (((p5.toUInt32 >>> ((16 : Int32) &&& 31).toUInt32).toInt32) &&& (15 : Int32))), .val (.int ((1 : Int32) + (((p5.toUInt32 >>> ((20 : Int32) &&& 31).toUInt32).toInt32) &&& (15 : Int32)))), .val (.long z25), .second, .val (.int z28)] [(.int z10), (.int (z10 + (1 : Int32)))]) _
  refine go1 (fun _ => XS.iconst X32.here hx rfl (hb hby at_261)) ?_
  show Go p.tables e below T32 (mkF m 262 #[.val (.int p1), .val (.int p2), .val (.long p3), .second, .val (.int p5), .val (.int p6), .val (.int p7), .val (.int z2), .val (.int (p1 &&& (1073741823 : Int32))), .val (.ref b3), .val (.ref nb5), .val (.int y7), .val (.int z10), .val (.int (((p5.toUInt32 >>> ((16 : Int32) &&& 31).toUInt32).toInt32) &&& (15 : Int32))), .val (.int ((1 : Int32) + (((p5.toUInt32 >>> ((20 : Int32) &&& 31).toUInt32).toInt32) &&& (15 : Int32)))), .val (.long z25), .second, .val (.int z28)] [(.int (1 : Int32)), (.int z10), (.int (z10 + (1 : Int32)))]) _
  refine go1 (fun _ => XS.iadd X32.here hx rfl (hb hby at_262) rfl) ?_
  show Go p.tables e below T32 (mkF m 263 #[.val (.int p1), .val (.int p2), .val (.long p3), .second, .val (.int p5), .val (.int p6), .val (.int p7), .val (.int z2), .val (.int (p1 &&& (1073741823 : Int32))), .val (.ref b3), .val (.ref nb5), .val (.int y7), .val (.int z10), .val (.int (((p5.toUInt32 >>> ((16 : Int32) &&& 31).toUInt32).toInt32) &&& (15 : Int32))), .val (.int ((1 : Int32) + (((p5.toUInt32 >>> ((20 : Int32) &&& 31).toUInt32).toInt32) &&& (15 : Int32)))), .val (.long z25), .second, .val (.int z28)] [(.int (z10 + (1 : Int32))), (.int (z10 + (1 : Int32)))]) _
  refine go1 (fun _ => XS.icmpNo X32.here hx rfl (hb hby at_263) rfl (teq (rfl : (z10 + (1 : Int32)) = (z10 + (1 : Int32)))).2) ?_
  show Go p.tables e below T32 (mkF m 266 #[.val (.int p1), .val (.int p2), .val (.long p3), .second, .val (.int p5), .val (.int p6), .val (.int p7), .val (.int z2), .val (.int (p1 &&& (1073741823 : Int32))), .val (.ref b3), .val (.ref nb5), .val (.int y7), .val (.int z10), .val (.int (((p5.toUInt32 >>> ((16 : Int32) &&& 31).toUInt32).toInt32) &&& (15 : Int32))), .val (.int ((1 : Int32) + (((p5.toUInt32 >>> ((20 : Int32) &&& 31).toUInt32).toInt32) &&& (15 : Int32)))), .val (.long z25), .second, .val (.int z28)] []) _
  refine go1 (fun _ => XS.aload X32.here hx rfl (hb hby at_266) rfl rfl) ?_
  show Go p.tables e below T32 (mkF m 268 #[.val (.int p1), .val (.int p2), .val (.long p3), .second, .val (.int p5), .val (.int p6), .val (.int p7), .val (.int z2), .val (.int (p1 &&& (1073741823 : Int32))), .val (.ref b3), .val (.ref nb5), .val (.int y7), .val (.int z10), .val (.int (((p5.toUInt32 >>> ((16 : Int32) &&& 31).toUInt32).toInt32) &&& (15 : Int32))), .val (.int ((1 : Int32) + (((p5.toUInt32 >>> ((20 : Int32) &&& 31).toUInt32).toInt32) &&& (15 : Int32)))), .val (.long z25), .second, .val (.int z28)] [(.ref b3)]) _
  obtain ⟨T33, X33, e33, st33⟩ := getF X32 hx hZ hown (host := "") (Or.inl (hw _ (List.mem_of_getElem? (i := 39) rfl))) Via.refl e32 G23_5 (g := (mkF m 268 #[.val (.int p1), .val (.int p2), .val (.long p3), .second, .val (.int p5), .val (.int p6), .val (.int p7), .val (.int z2), .val (.int (p1 &&& (1073741823 : Int32))), .val (.ref b3), .val (.ref nb5), .val (.int y7), .val (.int z10), .val (.int (((p5.toUInt32 >>> ((16 : Int32) &&& 31).toUInt32).toInt32) &&& (15 : Int32))), .val (.int ((1 : Int32) + (((p5.toUInt32 >>> ((20 : Int32) &&& 31).toUInt32).toInt32) &&& (15 : Int32)))), .val (.long z25), .second, .val (.int z28)] [(.ref b3)])) rfl rfl (hb hby at_268)
  refine go1 st33 ?_
  show Go p.tables e below T33 (mkF m 271 #[.val (.int p1), .val (.int p2), .val (.long p3), .second, .val (.int p5), .val (.int p6), .val (.int p7), .val (.int z2), .val (.int (p1 &&& (1073741823 : Int32))), .val (.ref b3), .val (.ref nb5), .val (.int y7), .val (.int z10), .val (.int (((p5.toUInt32 >>> ((16 : Int32) &&& 31).toUInt32).toInt32) &&& (15 : Int32))), .val (.int ((1 : Int32) + (((p5.toUInt32 >>> ((20 : Int32) &&& 31).toUInt32).toInt32) &&& (15 : Int32)))), .val (.long z25), .second, .val (.int z28)] [(.int p6)]) _
  refine go1 (fun _ => XS.iload X33.here hx rfl (hb hby at_271) rfl) ?_
  show Go p.tables e below T33 (mkF m 273 #[.val (.int p1), .val (.int p2), .val (.long p3), .second, .val (.int p5), .val (.int p6), .val (.int p7), .val (.int z2), .val (.int (p1 &&& (1073741823 : Int32))), .val (.ref b3), .val (.ref nb5), .val (.int y7), .val (.int z10), .val (.int (((p5.toUInt32 >>> ((16 : Int32) &&& 31).toUInt32).toInt32) &&& (15 : Int32))), .val (.int ((1 : Int32) + (((p5.toUInt32 >>> ((20 : Int32) &&& 31).toUInt32).toInt32) &&& (15 : Int32)))), .val (.long z25), .second, .val (.int z28)] [(.int p6), (.int p6)]) _
  refine go1 (fun _ => XS.icmpNo X33.here hx rfl (hb hby at_273) rfl (teq (rfl : p6 = p6)).2) ?_
  show Go p.tables e below T33 (mkF m 276 #[.val (.int p1), .val (.int p2), .val (.long p3), .second, .val (.int p5), .val (.int p6), .val (.int p7), .val (.int z2), .val (.int (p1 &&& (1073741823 : Int32))), .val (.ref b3), .val (.ref nb5), .val (.int y7), .val (.int z10), .val (.int (((p5.toUInt32 >>> ((16 : Int32) &&& 31).toUInt32).toInt32) &&& (15 : Int32))), .val (.int ((1 : Int32) + (((p5.toUInt32 >>> ((20 : Int32) &&& 31).toUInt32).toInt32) &&& (15 : Int32)))), .val (.long z25), .second, .val (.int z28)] []) _
  refine go1 (fun _ => XS.aload X33.here hx rfl (hb hby at_276) rfl rfl) ?_
  show Go p.tables e below T33 (mkF m 278 #[.val (.int p1), .val (.int p2), .val (.long p3), .second, .val (.int p5), .val (.int p6), .val (.int p7), .val (.int z2), .val (.int (p1 &&& (1073741823 : Int32))), .val (.ref b3), .val (.ref nb5), .val (.int y7), .val (.int z10), .val (.int (((p5.toUInt32 >>> ((16 : Int32) &&& 31).toUInt32).toInt32) &&& (15 : Int32))), .val (.int ((1 : Int32) + (((p5.toUInt32 >>> ((20 : Int32) &&& 31).toUInt32).toInt32) &&& (15 : Int32)))), .val (.long z25), .second, .val (.int z28)] [(.ref b3)]) _
  obtain ⟨T34, X34, e34, st34⟩ := getF X33 hx hZ hown (host := "") (Or.inl (hw _ (List.mem_of_getElem? (i := 41) rfl))) Via.refl e33 G23_6 (g := (mkF m 278 #[.val (.int p1), .val (.int p2), .val (.long p3), .second, .val (.int p5), .val (.int p6), .val (.int p7), .val (.int z2), .val (.int (p1 &&& (1073741823 : Int32))), .val (.ref b3), .val (.ref nb5), .val (.int y7), .val (.int z10), .val (.int (((p5.toUInt32 >>> ((16 : Int32) &&& 31).toUInt32).toInt32) &&& (15 : Int32))), .val (.int ((1 : Int32) + (((p5.toUInt32 >>> ((20 : Int32) &&& 31).toUInt32).toInt32) &&& (15 : Int32)))), .val (.long z25), .second, .val (.int z28)] [(.ref b3)])) rfl rfl (hb hby at_278)
  refine go1 st34 ?_
  show Go p.tables e below T34 (mkF m 281 #[.val (.int p1), .val (.int p2), .val (.long p3), .second, .val (.int p5), .val (.int p6), .val (.int p7), .val (.int z2), .val (.int (p1 &&& (1073741823 : Int32))), .val (.ref b3), .val (.ref nb5), .val (.int y7), .val (.int z10), .val (.int (((p5.toUInt32 >>> ((16 : Int32) &&& 31).toUInt32).toInt32) &&& (15 : Int32))), .val (.int ((1 : Int32) + (((p5.toUInt32 >>> ((20 : Int32) &&& 31).toUInt32).toInt32) &&& (15 : Int32)))), .val (.long z25), .second, .val (.int z28)] [(.int p7)]) _
  refine go1 (fun _ => XS.iload X34.here hx rfl (hb hby at_281) rfl) ?_
  show Go p.tables e below T34 (mkF m 283 #[.val (.int p1), .val (.int p2), .val (.long p3), .second, .val (.int p5), .val (.int p6), .val (.int p7), .val (.int z2), .val (.int (p1 &&& (1073741823 : Int32))), .val (.ref b3), .val (.ref nb5), .val (.int y7), .val (.int z10), .val (.int (((p5.toUInt32 >>> ((16 : Int32) &&& 31).toUInt32).toInt32) &&& (15 : Int32))), .val (.int ((1 : Int32) + (((p5.toUInt32 >>> ((20 : Int32) &&& 31).toUInt32).toInt32) &&& (15 : Int32)))), .val (.long z25), .second, .val (.int z28)] [(.int p7), (.int p7)]) _
  refine go1 (fun _ => XS.icmpNo X34.here hx rfl (hb hby at_283) rfl (teq (rfl : p7 = p7)).2) ?_
  show Go p.tables e below T34 (mkF m 286 #[.val (.int p1), .val (.int p2), .val (.long p3), .second, .val (.int p5), .val (.int p6), .val (.int p7), .val (.int z2), .val (.int (p1 &&& (1073741823 : Int32))), .val (.ref b3), .val (.ref nb5), .val (.int y7), .val (.int z10), .val (.int (((p5.toUInt32 >>> ((16 : Int32) &&& 31).toUInt32).toInt32) &&& (15 : Int32))), .val (.int ((1 : Int32) + (((p5.toUInt32 >>> ((20 : Int32) &&& 31).toUInt32).toInt32) &&& (15 : Int32)))), .val (.long z25), .second, .val (.int z28)] []) _
  refine go1 (fun _ => XS.aload X34.here hx rfl (hb hby at_286) rfl rfl) ?_
  show Go p.tables e below T34 (mkF m 288 #[.val (.int p1), .val (.int p2), .val (.long p3), .second, .val (.int p5), .val (.int p6), .val (.int p7), .val (.int z2), .val (.int (p1 &&& (1073741823 : Int32))), .val (.ref b3), .val (.ref nb5), .val (.int y7), .val (.int z10), .val (.int (((p5.toUInt32 >>> ((16 : Int32) &&& 31).toUInt32).toInt32) &&& (15 : Int32))), .val (.int ((1 : Int32) + (((p5.toUInt32 >>> ((20 : Int32) &&& 31).toUInt32).toInt32) &&& (15 : Int32)))), .val (.long z25), .second, .val (.int z28)] [(.ref b3)]) _
  obtain ⟨T35, X35, e35, st35⟩ := getF X34 hx hZ hown (host := "") (Or.inl (hw _ (List.mem_of_getElem? (i := 29) rfl))) Via.refl e34 G23_7 (g := (mkF m 288 #[.val (.int p1), .val (.int p2), .val (.long p3), .second, .val (.int p5), .val (.int p6), .val (.int p7), .val (.int z2), .val (.int (p1 &&& (1073741823 : Int32))), .val (.ref b3), .val (.ref nb5), .val (.int y7), .val (.int z10), .val (.int (((p5.toUInt32 >>> ((16 : Int32) &&& 31).toUInt32).toInt32) &&& (15 : Int32))), .val (.int ((1 : Int32) + (((p5.toUInt32 >>> ((20 : Int32) &&& 31).toUInt32).toInt32) &&& (15 : Int32)))), .val (.long z25), .second, .val (.int z28)] [(.ref b3)])) rfl rfl (hb hby at_288)
  refine go1 st35 ?_
  show Go p.tables e below T35 (mkF m 291 #[.val (.int p1), .val (.int p2), .val (.long p3), .second, .val (.int p5), .val (.int p6), .val (.int p7), .val (.int z2), .val (.int (p1 &&& (1073741823 : Int32))), .val (.ref b3), .val (.ref nb5), .val (.int y7), .val (.int z10), .val (.int (((p5.toUInt32 >>> ((16 : Int32) &&& 31).toUInt32).toInt32) &&& (15 : Int32))), .val (.int ((1 : Int32) + (((p5.toUInt32 >>> ((20 : Int32) &&& 31).toUInt32).toInt32) &&& (15 : Int32)))), .val (.long z25), .second, .val (.int z28)] [(.ref nb5)]) _
  refine go1 (fun _ => XS.aload X35.here hx rfl (hb hby at_291) rfl rfl) ?_
  show Go p.tables e below T35 (mkF m 293 #[.val (.int p1), .val (.int p2), .val (.long p3), .second, .val (.int p5), .val (.int p6), .val (.int p7), .val (.int z2), .val (.int (p1 &&& (1073741823 : Int32))), .val (.ref b3), .val (.ref nb5), .val (.int y7), .val (.int z10), .val (.int (((p5.toUInt32 >>> ((16 : Int32) &&& 31).toUInt32).toInt32) &&& (15 : Int32))), .val (.int ((1 : Int32) + (((p5.toUInt32 >>> ((20 : Int32) &&& 31).toUInt32).toInt32) &&& (15 : Int32)))), .val (.long z25), .second, .val (.int z28)] [(.ref nb5), (.ref nb5)]) _
  refine go1 (fun _ => Jvm.RoadKit.acmp (g := (mkF m 293 #[.val (.int p1), .val (.int p2), .val (.long p3), .second, .val (.int p5), .val (.int p6), .val (.int p7), .val (.int z2), .val (.int (p1 &&& (1073741823 : Int32))), .val (.ref b3), .val (.ref nb5), .val (.int y7), .val (.int z10), .val (.int (((p5.toUInt32 >>> ((16 : Int32) &&& 31).toUInt32).toInt32) &&& (15 : Int32))), .val (.int ((1 : Int32) + (((p5.toUInt32 >>> ((20 : Int32) &&& 31).toUInt32).toInt32) &&& (15 : Int32)))), .val (.long z25), .second, .val (.int z28)] [(.ref nb5), (.ref nb5)])) X35 hx rfl rfl rfl (pc0 := 293) (pc' := 296) (same := true) rfl (hb hby at_293) rfl (decide_eq_true rfl) (by decide) (by decide)) ?_
  show Go p.tables e below T35 (mkF m 296 #[.val (.int p1), .val (.int p2), .val (.long p3), .second, .val (.int p5), .val (.int p6), .val (.int p7), .val (.int z2), .val (.int (p1 &&& (1073741823 : Int32))), .val (.ref b3), .val (.ref nb5), .val (.int y7), .val (.int z10), .val (.int (((p5.toUInt32 >>> ((16 : Int32) &&& 31).toUInt32).toInt32) &&& (15 : Int32))), .val (.int ((1 : Int32) + (((p5.toUInt32 >>> ((20 : Int32) &&& 31).toUInt32).toInt32) &&& (15 : Int32)))), .val (.long z25), .second, .val (.int z28)] []) _
  refine go1 (fun _ => XS.aload X35.here hx rfl (hb hby at_296) rfl rfl) ?_
  show Go p.tables e below T35 (mkF m 298 #[.val (.int p1), .val (.int p2), .val (.long p3), .second, .val (.int p5), .val (.int p6), .val (.int p7), .val (.int z2), .val (.int (p1 &&& (1073741823 : Int32))), .val (.ref b3), .val (.ref nb5), .val (.int y7), .val (.int z10), .val (.int (((p5.toUInt32 >>> ((16 : Int32) &&& 31).toUInt32).toInt32) &&& (15 : Int32))), .val (.int ((1 : Int32) + (((p5.toUInt32 >>> ((20 : Int32) &&& 31).toUInt32).toInt32) &&& (15 : Int32)))), .val (.long z25), .second, .val (.int z28)] [(.ref b3)]) _
  obtain ⟨T36, X36, e36, st36⟩ := getF X35 hx hZ hown (host := "") (Or.inl (hw _ (List.mem_of_getElem? (i := 55) rfl))) Via.refl e35 G23_8 (g := (mkF m 298 #[.val (.int p1), .val (.int p2), .val (.long p3), .second, .val (.int p5), .val (.int p6), .val (.int p7), .val (.int z2), .val (.int (p1 &&& (1073741823 : Int32))), .val (.ref b3), .val (.ref nb5), .val (.int y7), .val (.int z10), .val (.int (((p5.toUInt32 >>> ((16 : Int32) &&& 31).toUInt32).toInt32) &&& (15 : Int32))), .val (.int ((1 : Int32) + (((p5.toUInt32 >>> ((20 : Int32) &&& 31).toUInt32).toInt32) &&& (15 : Int32)))), .val (.long z25), .second, .val (.int z28)] [(.ref b3)])) rfl rfl (hb hby at_298)
  refine go1 st36 ?_
  show Go p.tables e below T36 (mkF m 301 #[.val (.int p1), .val (.int p2), .val (.long p3), .second, .val (.int p5), .val (.int p6), .val (.int p7), .val (.int z2), .val (.int (p1 &&& (1073741823 : Int32))), .val (.ref b3), .val (.ref nb5), .val (.int y7), .val (.int z10), .val (.int (((p5.toUInt32 >>> ((16 : Int32) &&& 31).toUInt32).toInt32) &&& (15 : Int32))), .val (.int ((1 : Int32) + (((p5.toUInt32 >>> ((20 : Int32) &&& 31).toUInt32).toInt32) &&& (15 : Int32)))), .val (.long z25), .second, .val (.int z28)] [(.int (nar .boolean z2))]) _
  refine go1 (fun _ => XS.iload X36.here hx rfl (hb hby at_301) rfl) ?_
  show Go p.tables e below T36 (mkF m 303 #[.val (.int p1), .val (.int p2), .val (.long p3), .second, .val (.int p5), .val (.int p6), .val (.int p7), .val (.int z2), .val (.int (p1 &&& (1073741823 : Int32))), .val (.ref b3), .val (.ref nb5), .val (.int y7), .val (.int z10), .val (.int (((p5.toUInt32 >>> ((16 : Int32) &&& 31).toUInt32).toInt32) &&& (15 : Int32))), .val (.int ((1 : Int32) + (((p5.toUInt32 >>> ((20 : Int32) &&& 31).toUInt32).toInt32) &&& (15 : Int32)))), .val (.long z25), .second, .val (.int z28)] [(.int z2), (.int (nar .boolean z2))]) _
  refine go1 (fun _ => XS.icmpNo X36.here hx rfl (hb hby at_303) rfl (teq (own_nb hz2)).2) ?_
  show Go p.tables e below T36 (mkF m 306 #[.val (.int p1), .val (.int p2), .val (.long p3), .second, .val (.int p5), .val (.int p6), .val (.int p7), .val (.int z2), .val (.int (p1 &&& (1073741823 : Int32))), .val (.ref b3), .val (.ref nb5), .val (.int y7), .val (.int z10), .val (.int (((p5.toUInt32 >>> ((16 : Int32) &&& 31).toUInt32).toInt32) &&& (15 : Int32))), .val (.int ((1 : Int32) + (((p5.toUInt32 >>> ((20 : Int32) &&& 31).toUInt32).toInt32) &&& (15 : Int32)))), .val (.long z25), .second, .val (.int z28)] []) _
  refine go1 (fun _ => XS.aload X36.here hx rfl (hb hby at_306) rfl rfl) ?_
  show Go p.tables e below T36 (mkF m 308 #[.val (.int p1), .val (.int p2), .val (.long p3), .second, .val (.int p5), .val (.int p6), .val (.int p7), .val (.int z2), .val (.int (p1 &&& (1073741823 : Int32))), .val (.ref b3), .val (.ref nb5), .val (.int y7), .val (.int z10), .val (.int (((p5.toUInt32 >>> ((16 : Int32) &&& 31).toUInt32).toInt32) &&& (15 : Int32))), .val (.int ((1 : Int32) + (((p5.toUInt32 >>> ((20 : Int32) &&& 31).toUInt32).toInt32) &&& (15 : Int32)))), .val (.long z25), .second, .val (.int z28)] [(.ref b3)]) _
  obtain ⟨T37, X37, e37, st37⟩ := getF X36 hx hZ hown (host := "") (Or.inl (hw _ (List.mem_of_getElem? (i := 43) rfl))) Via.refl e36 G23_9 (g := (mkF m 308 #[.val (.int p1), .val (.int p2), .val (.long p3), .second, .val (.int p5), .val (.int p6), .val (.int p7), .val (.int z2), .val (.int (p1 &&& (1073741823 : Int32))), .val (.ref b3), .val (.ref nb5), .val (.int y7), .val (.int z10), .val (.int (((p5.toUInt32 >>> ((16 : Int32) &&& 31).toUInt32).toInt32) &&& (15 : Int32))), .val (.int ((1 : Int32) + (((p5.toUInt32 >>> ((20 : Int32) &&& 31).toUInt32).toInt32) &&& (15 : Int32)))), .val (.long z25), .second, .val (.int z28)] [(.ref b3)])) rfl rfl (hb hby at_308)
  refine go1 st37 ?_
  show Go p.tables e below T37 (mkF m 311 #[.val (.int p1), .val (.int p2), .val (.long p3), .second, .val (.int p5), .val (.int p6), .val (.int p7), .val (.int z2), .val (.int (p1 &&& (1073741823 : Int32))), .val (.ref b3), .val (.ref nb5), .val (.int y7), .val (.int z10), .val (.int (((p5.toUInt32 >>> ((16 : Int32) &&& 31).toUInt32).toInt32) &&& (15 : Int32))), .val (.int ((1 : Int32) + (((p5.toUInt32 >>> ((20 : Int32) &&& 31).toUInt32).toInt32) &&& (15 : Int32)))), .val (.long z25), .second, .val (.int z28)] [(.int (((p5.toUInt32 >>> ((16 : Int32) &&& 31).toUInt32).toInt32) &&& (15 : Int32)))]) _
  refine go1 (fun _ => XS.iload X37.here hx rfl (hb hby at_311) rfl) ?_
  show Go p.tables e below T37 (mkF m 313 #[.val (.int p1), .val (.int p2), .val (.long p3), .second, .val (.int p5), .val (.int p6), .val (.int p7), .val (.int z2), .val (.int (p1 &&& (1073741823 : Int32))), .val (.ref b3), .val (.ref nb5), .val (.int y7), .val (.int z10), .val (.int (((p5.toUInt32 >>> ((16 : Int32) &&& 31).toUInt32).toInt32) &&& (15 : Int32))), .val (.int ((1 : Int32) + (((p5.toUInt32 >>> ((20 : Int32) &&& 31).toUInt32).toInt32) &&& (15 : Int32)))), .val (.long z25), .second, .val (.int z28)] [(.int (((p5.toUInt32 >>> ((16 : Int32) &&& 31).toUInt32).toInt32) &&& (15 : Int32))), (.int (((p5.toUInt32 >>> ((16 : Int32) &&& 31).toUInt32).toInt32) &&& (15 : Int32)))]) _
  refine go1 (fun _ => XS.icmpNo X37.here hx rfl (hb hby at_313) rfl (teq (rfl : (((p5.toUInt32 >>> ((16 : Int32) &&& 31).toUInt32).toInt32) &&& (15 : Int32)) = (((p5.toUInt32 >>> ((16 : Int32) &&& 31).toUInt32).toInt32) &&& (15 : Int32)))).2) ?_
  show Go p.tables e below T37 (mkF m 316 #[.val (.int p1), .val (.int p2), .val (.long p3), .second, .val (.int p5), .val (.int p6), .val (.int p7), .val (.int z2), .val (.int (p1 &&& (1073741823 : Int32))), .val (.ref b3), .val (.ref nb5), .val (.int y7), .val (.int z10), .val (.int (((p5.toUInt32 >>> ((16 : Int32) &&& 31).toUInt32).toInt32) &&& (15 : Int32))), .val (.int ((1 : Int32) + (((p5.toUInt32 >>> ((20 : Int32) &&& 31).toUInt32).toInt32) &&& (15 : Int32)))), .val (.long z25), .second, .val (.int z28)] []) _
  refine go1 (fun _ => XS.aload X37.here hx rfl (hb hby at_316) rfl rfl) ?_
  show Go p.tables e below T37 (mkF m 318 #[.val (.int p1), .val (.int p2), .val (.long p3), .second, .val (.int p5), .val (.int p6), .val (.int p7), .val (.int z2), .val (.int (p1 &&& (1073741823 : Int32))), .val (.ref b3), .val (.ref nb5), .val (.int y7), .val (.int z10), .val (.int (((p5.toUInt32 >>> ((16 : Int32) &&& 31).toUInt32).toInt32) &&& (15 : Int32))), .val (.int ((1 : Int32) + (((p5.toUInt32 >>> ((20 : Int32) &&& 31).toUInt32).toInt32) &&& (15 : Int32)))), .val (.long z25), .second, .val (.int z28)] [(.ref b3)]) _
  obtain ⟨T38, X38, e38, st38⟩ := getF X37 hx hZ hown (host := "") (Or.inl (hw _ (List.mem_of_getElem? (i := 45) rfl))) Via.refl e37 G23_10 (g := (mkF m 318 #[.val (.int p1), .val (.int p2), .val (.long p3), .second, .val (.int p5), .val (.int p6), .val (.int p7), .val (.int z2), .val (.int (p1 &&& (1073741823 : Int32))), .val (.ref b3), .val (.ref nb5), .val (.int y7), .val (.int z10), .val (.int (((p5.toUInt32 >>> ((16 : Int32) &&& 31).toUInt32).toInt32) &&& (15 : Int32))), .val (.int ((1 : Int32) + (((p5.toUInt32 >>> ((20 : Int32) &&& 31).toUInt32).toInt32) &&& (15 : Int32)))), .val (.long z25), .second, .val (.int z28)] [(.ref b3)])) rfl rfl (hb hby at_318)
  refine go1 st38 ?_
  show Go p.tables e below T38 (mkF m 321 #[.val (.int p1), .val (.int p2), .val (.long p3), .second, .val (.int p5), .val (.int p6), .val (.int p7), .val (.int z2), .val (.int (p1 &&& (1073741823 : Int32))), .val (.ref b3), .val (.ref nb5), .val (.int y7), .val (.int z10), .val (.int (((p5.toUInt32 >>> ((16 : Int32) &&& 31).toUInt32).toInt32) &&& (15 : Int32))), .val (.int ((1 : Int32) + (((p5.toUInt32 >>> ((20 : Int32) &&& 31).toUInt32).toInt32) &&& (15 : Int32)))), .val (.long z25), .second, .val (.int z28)] [(.int ((1 : Int32) + (((p5.toUInt32 >>> ((20 : Int32) &&& 31).toUInt32).toInt32) &&& (15 : Int32))))]) _
  refine go1 (fun _ => XS.iload X38.here hx rfl (hb hby at_321) rfl) ?_
  show Go p.tables e below T38 (mkF m 323 #[.val (.int p1), .val (.int p2), .val (.long p3), .second, .val (.int p5), .val (.int p6), .val (.int p7), .val (.int z2), .val (.int (p1 &&& (1073741823 : Int32))), .val (.ref b3), .val (.ref nb5), .val (.int y7), .val (.int z10), .val (.int (((p5.toUInt32 >>> ((16 : Int32) &&& 31).toUInt32).toInt32) &&& (15 : Int32))), .val (.int ((1 : Int32) + (((p5.toUInt32 >>> ((20 : Int32) &&& 31).toUInt32).toInt32) &&& (15 : Int32)))), .val (.long z25), .second, .val (.int z28)] [(.int ((1 : Int32) + (((p5.toUInt32 >>> ((20 : Int32) &&& 31).toUInt32).toInt32) &&& (15 : Int32)))), (.int ((1 : Int32) + (((p5.toUInt32 >>> ((20 : Int32) &&& 31).toUInt32).toInt32) &&& (15 : Int32))))]) _
  refine go1 (fun _ => XS.icmpNo X38.here hx rfl (hb hby at_323) rfl (teq (rfl : ((1 : Int32) + (((p5.toUInt32 >>> ((20 : Int32) &&& 31).toUInt32).toInt32) &&& (15 : Int32))) = ((1 : Int32) + (((p5.toUInt32 >>> ((20 : Int32) &&& 31).toUInt32).toInt32) &&& (15 : Int32))))).2) ?_
  show Go p.tables e below T38 (mkF m 326 #[.val (.int p1), .val (.int p2), .val (.long p3), .second, .val (.int p5), .val (.int p6), .val (.int p7), .val (.int z2), .val (.int (p1 &&& (1073741823 : Int32))), .val (.ref b3), .val (.ref nb5), .val (.int y7), .val (.int z10), .val (.int (((p5.toUInt32 >>> ((16 : Int32) &&& 31).toUInt32).toInt32) &&& (15 : Int32))), .val (.int ((1 : Int32) + (((p5.toUInt32 >>> ((20 : Int32) &&& 31).toUInt32).toInt32) &&& (15 : Int32)))), .val (.long z25), .second, .val (.int z28)] []) _
  refine go1 (fun _ => XS.iconst X38.here hx rfl (hb hby at_326)) ?_
  show Go p.tables e below T38 (mkF m 327 #[.val (.int p1), .val (.int p2), .val (.long p3), .second, .val (.int p5), .val (.int p6), .val (.int p7), .val (.int z2), .val (.int (p1 &&& (1073741823 : Int32))), .val (.ref b3), .val (.ref nb5), .val (.int y7), .val (.int z10), .val (.int (((p5.toUInt32 >>> ((16 : Int32) &&& 31).toUInt32).toInt32) &&& (15 : Int32))), .val (.int ((1 : Int32) + (((p5.toUInt32 >>> ((20 : Int32) &&& 31).toUInt32).toInt32) &&& (15 : Int32)))), .val (.long z25), .second, .val (.int z28)] [(.int (1 : Int32))]) _
  refine go1 (fun _ => XS.goto X38.here hx rfl (pc0 := 327) (pc' := 331) rfl (hb hby at_327) (by decide) (by decide)) ?_
  show Go p.tables e below T38 (mkF m 331 #[.val (.int p1), .val (.int p2), .val (.long p3), .second, .val (.int p5), .val (.int p6), .val (.int p7), .val (.int z2), .val (.int (p1 &&& (1073741823 : Int32))), .val (.ref b3), .val (.ref nb5), .val (.int y7), .val (.int z10), .val (.int (((p5.toUInt32 >>> ((16 : Int32) &&& 31).toUInt32).toInt32) &&& (15 : Int32))), .val (.int ((1 : Int32) + (((p5.toUInt32 >>> ((20 : Int32) &&& 31).toUInt32).toInt32) &&& (15 : Int32)))), .val (.long z25), .second, .val (.int z28)] [(.int (1 : Int32))]) _
  refine goR X38 (BodyLoose.notSynchronized Bd) (v := (some (.int (1 : Int32)))) (fun h => by rw [Bd.returns] at h; cases h) (Q0 Z p1 p2 p3 p5 p6 p7 h0 n0) (fun fs hr => retN X38 hx (t := .boolean) Bd.returns (by simp) (hb hby at_331) hr) (by decide) (by decide) ?_
  show Q0 Z p1 p2 p3 p5 p6 p7 h0 n0 _ T38.heap _
  rw [e38]
  exact ⟨rfl, N23⟩
set_option maxRecDepth 65536 in
set_option maxHeartbeats 40000000 in
theorem comes_1 {Post : Tables → Env → Array Value → State → Outcome → State → Prop} (hpost : ∀ tb e args s v u, (limb_1_1.after args s (.returned v) u = true ∧ limb_1_2.after args s (.returned v) u = true ∧ True) → FrameEnd s (.returned v) u (Jvm.fieldLocs frame_1_writes args s ++ Jvm.arrayLocs frame_1_arrays args s ++ Jvm.staticLocs frame_1_statics s) 16 256 → Post tb e args s (.returned v) u) :
    ArmFor flags0 classFile x code maxLocals ret World_1 tables_1 room_1 Calls_1 rest_1 Pre_1 Post := by
  intro l hfl _ _ p e ha hc hk s m args below hf hA hF happ hP
  obtain ⟨hcalls, hrest, hpre⟩ := hP
  obtain ⟨-, -, -, hnamed, -, -, -, hat⟩ := (Spec.applies_iff hf).mp happ
  obtain ⟨hg, hn⟩ := and_e (Cond.before_iff.mp (show (Jvm.Cond.and given_1 narrow_1).before args s = true from hpre))
  obtain ⟨gc, q0⟩ := and_e hg
  obtain ⟨ga0, q1⟩ := and_e q0
  obtain ⟨ga1, q2⟩ := and_e q1
  obtain ⟨ga2, q3⟩ := and_e q2
  obtain ⟨ga3, q4⟩ := and_e q3
  obtain ⟨ga4, q5⟩ := and_e q4
  have ga5 := q5
  obtain ⟨w0, w1, w2, w3, w4, w5, rfl⟩ : ∃ w0 w1 w2 w3 w4 w5 : Value, args = #[w0, w1, w2, w3, w4, w5] := by
    have hs : args.size = 6 := by simpa [Cond.value, given_1] using gc
    obtain ⟨L⟩ := args
    match L, hs with
    | [w0, w1, w2, w3, w4, w5], _ => exact ⟨w0, w1, w2, w3, w4, w5, rfl⟩
  have hw := fun d (hd : d ∈ tables_1) => atoms_spec (ws := Jvm.Cond.code x code maxLocals ret :: tables_1) hat d (List.mem_cons_of_mem _ hd)
  have hfit : Fit s := fun {y c} hc i hi => by
    obtain ⟨ha, rfl⟩ := Array.getElem?_eq_some_iff.mp hc
    have q := List.all_eq_true.mp ((Array.all_eq_true_iff_forall_mem.mp hF) _ (Array.getElem_mem ha)) i (List.mem_range.mpr hi)
    simpa [Array.getElem?_eq_getElem hi] using q
  obtain ⟨i0, ei0⟩ := is_v ga0
  obtain rfl : w0 = (.int i0) := Option.some.inj ei0
  obtain ⟨i1, ei1⟩ := is_v ga1
  obtain rfl : w1 = (.int i1) := Option.some.inj ei1
  obtain ⟨i2, ei2⟩ := isL_v ga2
  obtain rfl : w2 = (.long i2) := Option.some.inj ei2
  obtain ⟨i3, ei3⟩ := is_v ga3
  obtain rfl : w3 = (.int i3) := Option.some.inj ei3
  obtain ⟨i4, ei4⟩ := is_v ga4
  obtain rfl : w4 = (.int i4) := Option.some.inj ei4
  obtain ⟨i5, ei5⟩ := is_v ga5
  obtain rfl : w5 = (.int i5) := Option.some.inj ei5
  obtain ⟨n, o, h1, h2, h3, _, L, rfl, ⟨rfl, N⟩, hq⟩ := rm0 l s _ hw tables_1 i0 i1 i2 i3 i4 i5 s.heap s.heap.size (Nat.le_refl _) (Old.start s)  p e ha hc hk s m _ below hf ((Spec.applies_iff_loose hf).mp happ).1 ⟨rfl, State.Warmed39.refl s, rfl⟩ trivial
  refine ⟨n, _, h1, h2, h3, hpost _ _ _ _ _ _ ⟨Cond.after_iff.mpr rfl, Cond.after_iff.mpr (eq_i res_at (Term.int_eval (1)) rfl), trivial⟩ ⟨hq.1, hq.2.1, (hq.2.2.sift fun y hy => Or.inr (N y hy)).mono (by decide) (by decide)⟩⟩
theorem main_1_1 : Claimed_1_1 := comes_1 fun _ _ _ _ _ _ h hF => ⟨h.1, hF⟩
theorem main_1_2 : Claimed_1_2 := comes_1 fun _ _ _ _ _ _ h hF => ⟨h.2.1, hF⟩
end Jvm.Pilot.@@N@@
namespace Jvm.Pilot.@@N@@
open Jvm Jvm.ClassFile Sem Op Lib Jvm.Free Jvm.Stand Jvm.Pilot.@@N@@.Jvm.D
/-! MADE BY PROGRAM (witnessworld.py) out of the Statement's table words and the real class files: 17 classes; the members and pool entries that the words name. The judged class is class 1, her method 1. -/
namespace start1
open Jvm.ClassFile
def u (s : String) : CpInfo := .utf8 (stringToUtf16 s)
/-- a pool by its gaps: so many unusable entries, then the entry; so many at the end -/
def gap : Nat → List CpInfo → List CpInfo
  | 0, r => r
  | n + 1, r => .unusable :: gap n r
def poolList (es : List (Nat × CpInfo)) (last : Nat) : List CpInfo := es.foldr (fun e r => gap e.1 (e.2 :: r)) (gap last [])
def pool (es : List (Nat × CpInfo)) (last : Nat) : Array CpInfo := ⟨poolList es last⟩
def fileOf (pool : Array CpInfo) (this : Nat) (attrs : Array Attribute := #[]) (ms : Array MethodInfo := #[]) (fl : Nat := 33) (sup : Nat := 0) (ifs : Array Nat := #[]) (fds : Array FieldInfo := #[]) : ClassFile where
  minorVersion := 0
  majorVersion := 65
  constantPool := pool
  accessFlags := fl
  thisClass := this
  superClass := sup
  interfaces := ifs
  fields := fds
  methods := ms
  attributes := attrs
def plain (name : String) (sup : Option ClassId) : Class where
  name := name
  kind := .ordinary
  loader := none
  accessFlags := 33
  super := sup
  interfaces := #[]
  cf := none
  fields := #[]
  methods := #[]
  instanceTypes := #[]
  staticTypes := #[]
  resolved := #[]
  callSites := []
  init := .initialized
  statics := none
  mirror := none

def pool0 : Array CpInfo := pool [(5, u "<init>"), (0, u "()V"), (1, .class_ 10), (1, u "java/lang/Object")] 113

def k0c0 : Code := { maxStack := 0, maxLocals := 1, code := object_method_1_code, exceptionTable := #[], attributes := #[] }
def k0m0 : Method := { name := "<init>", desc := "()V", sig := { parameters := [], returnType := none }, accessFlags := 1, code := some k0c0 }
/-- java/lang/Object -/
def k0 : Class := { plain "java/lang/Object" none with
  accessFlags := 33
  interfaces := #[]
  cf := some (fileOf pool0 8 #[] #[{ accessFlags := 1, nameIndex := 5, descriptorIndex := 6, attributes := #[] }] 33 0 #[] #[])
  fields := #[]
  methods := #[k0m0]
  instanceTypes := #[]
  staticTypes := #[]
  resolved := Array.replicate 124 none
  statics := none }

def pool1 : Array CpInfo := pool [(2, .class_ 4), (1, u "java/lang/Object"), (0, u "<init>"), (0, u "()V"), (0, .integer 1073741823), (0, .class_ 9), (0, u "com/example/carmine/carmine/Walk"), (0, .methodref 8 11), (0, .nameAndType 5 12), (0, u "(IZ)V"), (0, .fieldref 8 14), (0, .nameAndType 15 16), (0, u "nodes"), (0, u "[Lcom/example/carmine/carmine/Node;"), (0, .integer 2147483647), (0, .fieldref 8 19), (0, .nameAndType 20 21), (0, u "turns"), (0, u "J"), (0, .fieldref 8 23), (0, .nameAndType 24 25), (0, u "depth"), (0, u "I"), (0, .fieldref 8 27), (0, .nameAndType 28 29), (0, u "left"), (0, u "Z"), (0, .fieldref 8 31), (0, .nameAndType 32 25), (0, u "valid"), (0, .fieldref 8 34), (0, .nameAndType 35 25), (0, u "counted"), (0, .fieldref 8 37), (0, .nameAndType 38 25), (0, u "rotations"), (0, .fieldref 8 40), (0, .nameAndType 41 25), (0, u "coldDescents"), (0, .fieldref 8 43), (0, .nameAndType 44 25), (0, u "coldSpan"), (0, .methodref 8 46), (0, .nameAndType 47 48), (0, u "endAt"), (0, u "(I)V"), (0, .fieldref 8 50), (0, .nameAndType 51 29), (0, u "copying"), (0, .class_ 53), (0, u "com/example/carmine/carmine/WalkEndAtPinLaw"), (2, u "law"), (0, u "(IIJIII)Z")] 4

def k1m0 : Method := { name := "<init>", desc := "()V", sig := { parameters := [], returnType := none }, accessFlags := 1, code := none }
def k1c1 : Code := { maxStack := 4, maxLocals := 18, code := code, exceptionTable := #[], attributes := #[] }
def k1m1 : Method := { name := "law", desc := "(IIJIII)Z", sig := { parameters := [.int, .int, .long, .int, .int, .int], returnType := some .boolean }, accessFlags := 9, code := some k1c1 }
/-- com/example/carmine/carmine/WalkEndAtPinLaw -/
def k1 : Class := { plain "com/example/carmine/carmine/WalkEndAtPinLaw" (some 0) with
  accessFlags := 49
  interfaces := #[]
  cf := some (fileOf pool1 52 #[] #[{ accessFlags := 1, nameIndex := 5, descriptorIndex := 6, attributes := #[] }, { accessFlags := 9, nameIndex := 56, descriptorIndex := 57, attributes := #[] }] 49 2 #[] #[])
  fields := #[]
  methods := #[k1m0, k1m1]
  instanceTypes := #[]
  staticTypes := #[]
  resolved := Array.replicate 62 none
  statics := none }

def pool2 : Array CpInfo := pool [(2, .class_ 4), (1, u "com/example/carmine/carmine/Walk"), (0, u "<init>"), (0, u "(IZ)V"), (0, .methodref 8 9), (0, .class_ 10), (0, .nameAndType 5 11), (0, u "java/lang/Object"), (0, u "()V"), (0, .fieldref 2 13), (0, .nameAndType 14 15), (0, u "coldSpan"), (0, u "I"), (0, .methodref 2 17), (0, .nameAndType 18 19), (0, u "newNodes"), (0, u "(I)[Lcom/example/carmine/carmine/Node;"), (0, .fieldref 2 21), (0, .nameAndType 22 23), (0, u "nodes"), (0, u "[Lcom/example/carmine/carmine/Node;"), (0, .fieldref 2 25), (0, .nameAndType 26 27), (0, u "copying"), (0, u "Z"), (0, .methodref 2 29), (0, .nameAndType 30 31), (0, u "length"), (0, u "(I)I"), (0, .class_ 33), (0, u "com/example/carmine/carmine/Node"), (14, u "(I)V"), (2, u "coldDescents"), (0, .fieldref 2 53), (0, .nameAndType 54 15), (0, u "valid"), (10, .fieldref 2 66), (0, .nameAndType 67 68), (0, u "turns"), (0, u "J"), (6, u "numberOfLeadingZeros"), (17, u "left"), (21, .fieldref 2 116), (0, .nameAndType 117 15), (0, u "depth"), (0, .fieldref 2 119), (0, .nameAndType 93 27), (27, u "endAt"), (2, u "counted"), (3, .class_ 155), (0, u "java/lang/Integer"), (0, .methodref 154 157), (0, .nameAndType 75 31), (0, u "RESUME_LIMIT"), (2, u "MAX_COLD_DESCENTS"), (3, u "rotations")] 33

def k2c0 : Code := { maxStack := 2, maxLocals := 3, code := prog_13_method_2_code, exceptionTable := #[], attributes := #[] }
def k2m0 : Method := { name := "<init>", desc := "(IZ)V", sig := { parameters := [.int, .boolean], returnType := none }, accessFlags := 0, code := some k2c0 }
def k2c1 : Code := { maxStack := 7, maxLocals := 2, code := prog_13_method_16_code, exceptionTable := #[], attributes := #[] }
def k2m1 : Method := { name := "endAt", desc := "(I)V", sig := { parameters := [.int], returnType := none }, accessFlags := 0, code := some k2c1 }
def k2c2 : Code := { maxStack := 1, maxLocals := 1, code := prog_13_method_22_code, exceptionTable := #[], attributes := #[] }
def k2m2 : Method := { name := "newNodes", desc := "(I)[Lcom/example/carmine/carmine/Node;", sig := { parameters := [.int], returnType := some (.array (.object "com/example/carmine/carmine/Node")) }, accessFlags := 8, code := some k2c2 }
def k2c3 : Code := { maxStack := 3, maxLocals := 2, code := prog_13_method_24_code, exceptionTable := #[], attributes := #[] }
def k2m3 : Method := { name := "length", desc := "(I)I", sig := { parameters := [.int], returnType := some .int }, accessFlags := 10, code := some k2c3 }
/-- com/example/carmine/carmine/Walk -/
def k2 : Class := { plain "com/example/carmine/carmine/Walk" (some 0) with
  accessFlags := 32
  interfaces := #[]
  cf := some (fileOf pool2 2 #[] #[{ accessFlags := 0, nameIndex := 5, descriptorIndex := 6, attributes := #[] }, { accessFlags := 0, nameIndex := 147, descriptorIndex := 48, attributes := #[] }, { accessFlags := 8, nameIndex := 18, descriptorIndex := 19, attributes := #[] }, { accessFlags := 10, nameIndex := 30, descriptorIndex := 31, attributes := #[] }] 32 8 #[] #[{ accessFlags := 26, nameIndex := 158, descriptorIndex := 15, attributes := #[] }, { accessFlags := 26, nameIndex := 161, descriptorIndex := 15, attributes := #[] }, { accessFlags := 16, nameIndex := 22, descriptorIndex := 23, attributes := #[] }, { accessFlags := 16, nameIndex := 26, descriptorIndex := 27, attributes := #[] }, { accessFlags := 0, nameIndex := 117, descriptorIndex := 15, attributes := #[] }, { accessFlags := 0, nameIndex := 93, descriptorIndex := 27, attributes := #[] }, { accessFlags := 0, nameIndex := 150, descriptorIndex := 15, attributes := #[] }, { accessFlags := 0, nameIndex := 165, descriptorIndex := 15, attributes := #[] }, { accessFlags := 0, nameIndex := 54, descriptorIndex := 15, attributes := #[] }, { accessFlags := 0, nameIndex := 67, descriptorIndex := 68, attributes := #[] }, { accessFlags := 0, nameIndex := 51, descriptorIndex := 15, attributes := #[] }, { accessFlags := 0, nameIndex := 14, descriptorIndex := 15, attributes := #[] }])
  fields := #[{ name := "RESUME_LIMIT", type := .int, accessFlags := 26, slot := 0, constantValue := 0 }, { name := "MAX_COLD_DESCENTS", type := .int, accessFlags := 26, slot := 1, constantValue := 0 }, { name := "nodes", type := (.array (.object "com/example/carmine/carmine/Node")), accessFlags := 16, slot := 0, constantValue := 0 }, { name := "copying", type := .boolean, accessFlags := 16, slot := 1, constantValue := 0 }, { name := "depth", type := .int, accessFlags := 0, slot := 2, constantValue := 0 }, { name := "left", type := .boolean, accessFlags := 0, slot := 3, constantValue := 0 }, { name := "counted", type := .int, accessFlags := 0, slot := 4, constantValue := 0 }, { name := "rotations", type := .int, accessFlags := 0, slot := 5, constantValue := 0 }, { name := "valid", type := .int, accessFlags := 0, slot := 6, constantValue := 0 }, { name := "turns", type := .long, accessFlags := 0, slot := 7, constantValue := 0 }, { name := "coldDescents", type := .int, accessFlags := 0, slot := 8, constantValue := 0 }, { name := "coldSpan", type := .int, accessFlags := 0, slot := 9, constantValue := 0 }]
  methods := #[k2m0, k2m1, k2m2, k2m3]
  instanceTypes := #[(.array (.object "com/example/carmine/carmine/Node")), .boolean, .int, .boolean, .int, .int, .int, .long, .int, .int]
  staticTypes := #[.int, .int]
  resolved := Array.replicate 199 none
  statics := none }

def pool3 : Array CpInfo := pool [(1, .class_ 2), (0, u "java/io/Serializable"), (0, .class_ 4), (0, u "java/lang/Object")] 2

/-- java/io/Serializable -/
def k3 : Class := { plain "java/io/Serializable" (some 0) with
  accessFlags := 1537
  interfaces := #[]
  cf := some (fileOf pool3 1 #[] #[] 1537 3 #[] #[])
  fields := #[]
  methods := #[]
  instanceTypes := #[]
  staticTypes := #[]
  resolved := Array.replicate 7 none
  statics := none }

def pool4 : Array CpInfo := pool [(2, .class_ 4), (1, u "java/lang/Object"), (0, u "<init>"), (0, u "()V"), (1, .class_ 10), (1, u "java/lang/Number"), (2, .class_ 14), (0, u "java/io/Serializable"), (0, u "serialVersionUID"), (0, u "J")] 20

def k4m0 : Method := { name := "<init>", desc := "()V", sig := { parameters := [], returnType := none }, accessFlags := 1, code := none }
/-- java/lang/Number -/
def k4 : Class := { plain "java/lang/Number" (some 0) with
  accessFlags := 1057
  interfaces := #[3]
  cf := some (fileOf pool4 8 #[] #[{ accessFlags := 1, nameIndex := 5, descriptorIndex := 6, attributes := #[] }] 1057 2 #[13] #[{ accessFlags := 26, nameIndex := 15, descriptorIndex := 16, attributes := #[] }])
  fields := #[{ name := "serialVersionUID", type := .long, accessFlags := 26, slot := 0, constantValue := 0 }]
  methods := #[k4m0]
  instanceTypes := #[]
  staticTypes := #[.long]
  resolved := Array.replicate 37 none
  statics := none }

def pool5 : Array CpInfo := pool [(1, .class_ 2), (0, u "java/lang/Comparable"), (0, .class_ 4), (0, u "java/lang/Object")] 7

/-- java/lang/Comparable -/
def k5 : Class := { plain "java/lang/Comparable" (some 0) with
  accessFlags := 1537
  interfaces := #[]
  cf := some (fileOf pool5 1 #[] #[] 1537 3 #[] #[])
  fields := #[]
  methods := #[]
  instanceTypes := #[]
  staticTypes := #[]
  resolved := Array.replicate 12 none
  statics := none }

def pool6 : Array CpInfo := pool [(1, .class_ 2), (0, u "java/lang/constant/Constable"), (0, .class_ 4), (0, u "java/lang/Object")] 6

/-- java/lang/constant/Constable -/
def k6 : Class := { plain "java/lang/constant/Constable" (some 0) with
  accessFlags := 1537
  interfaces := #[]
  cf := some (fileOf pool6 1 #[] #[] 1537 3 #[] #[])
  fields := #[]
  methods := #[]
  instanceTypes := #[]
  staticTypes := #[]
  resolved := Array.replicate 11 none
  statics := none }

def pool7 : Array CpInfo := pool [(1, .class_ 2), (0, u "java/lang/constant/ConstantDesc"), (0, .class_ 4), (0, u "java/lang/Object")] 32

/-- java/lang/constant/ConstantDesc -/
def k7 : Class := { plain "java/lang/constant/ConstantDesc" (some 0) with
  accessFlags := 1537
  interfaces := #[]
  cf := some (fileOf pool7 1 #[] #[] 1537 3 #[] #[])
  fields := #[]
  methods := #[]
  instanceTypes := #[]
  staticTypes := #[]
  resolved := Array.replicate 37 none
  statics := none }

def pool8 : Array CpInfo := pool [(1, .class_ 2), (0, u "java/lang/Integer"), (16, u "digits"), (0, u "[C"), (32, u "numberOfLeadingZeros"), (0, u "(I)I"), (30, u "DigitOnes"), (0, u "[B"), (2, u "DigitTens"), (99, .class_ 190), (0, u "java/lang/Integer$IntegerCache"), (3, u "I"), (8, .class_ 204), (0, u "java/lang/Number"), (2, u "value"), (56, .integer 65536), (37, u "TYPE"), (0, u "Ljava/lang/Class;"), (0, .class_ 305), (0, u "java/lang/Comparable"), (0, .class_ 307), (0, u "java/lang/constant/Constable"), (0, .class_ 309), (0, u "java/lang/constant/ConstantDesc"), (0, u "MIN_VALUE"), (1, u "MAX_VALUE"), (3, u "SIZE"), (1, u "BYTES"), (1, u "serialVersionUID"), (0, u "J")] 131

def k8c0 : Code := { maxStack := 3, maxLocals := 2, code := jdk_33_method_47_code, exceptionTable := #[], attributes := #[] }
def k8m0 : Method := { name := "numberOfLeadingZeros", desc := "(I)I", sig := { parameters := [.int], returnType := some .int }, accessFlags := 9, code := some k8c0 }
/-- java/lang/Integer -/
def k8 : Class := { plain "java/lang/Integer" (some 4) with
  accessFlags := 49
  interfaces := #[5, 6, 7]
  cf := some (fileOf pool8 1 #[.nestMembers #[189]] #[{ accessFlags := 9, nameIndex := 53, descriptorIndex := 54, attributes := #[] }] 49 203 #[304, 306, 308] #[{ accessFlags := 25, nameIndex := 310, descriptorIndex := 194, attributes := #[] }, { accessFlags := 25, nameIndex := 312, descriptorIndex := 194, attributes := #[] }, { accessFlags := 25, nameIndex := 302, descriptorIndex := 303, attributes := #[] }, { accessFlags := 24, nameIndex := 19, descriptorIndex := 20, attributes := #[] }, { accessFlags := 24, nameIndex := 89, descriptorIndex := 86, attributes := #[] }, { accessFlags := 24, nameIndex := 85, descriptorIndex := 86, attributes := #[] }, { accessFlags := 18, nameIndex := 207, descriptorIndex := 194, attributes := #[] }, { accessFlags := 25, nameIndex := 316, descriptorIndex := 194, attributes := #[] }, { accessFlags := 25, nameIndex := 318, descriptorIndex := 194, attributes := #[] }, { accessFlags := 26, nameIndex := 320, descriptorIndex := 321, attributes := #[] }])
  fields := #[{ name := "MIN_VALUE", type := .int, accessFlags := 25, slot := 0, constantValue := 0 }, { name := "MAX_VALUE", type := .int, accessFlags := 25, slot := 1, constantValue := 0 }, { name := "TYPE", type := (.object "java/lang/Class"), accessFlags := 25, slot := 2, constantValue := 0 }, { name := "digits", type := (.array .char), accessFlags := 24, slot := 3, constantValue := 0 }, { name := "DigitTens", type := (.array .byte), accessFlags := 24, slot := 4, constantValue := 0 }, { name := "DigitOnes", type := (.array .byte), accessFlags := 24, slot := 5, constantValue := 0 }, { name := "value", type := .int, accessFlags := 18, slot := 0, constantValue := 0 }, { name := "SIZE", type := .int, accessFlags := 25, slot := 6, constantValue := 0 }, { name := "BYTES", type := .int, accessFlags := 25, slot := 7, constantValue := 0 }, { name := "serialVersionUID", type := .long, accessFlags := 26, slot := 8, constantValue := 0 }]
  methods := #[k8m0]
  instanceTypes := #[.int]
  staticTypes := #[.int, .int, (.object "java/lang/Class"), (.array .char), (.array .byte), (.array .byte), .int, .int, .long]
  resolved := Array.replicate 453 none
  statics := none }

def pool9 : Array CpInfo := pool [(23, .class_ 25), (1, u "java/util/Map$Entry"), (6, .class_ 34), (1, u "java/util/Map"), (34, .class_ 70), (0, u "java/lang/Object")] 107

/-- java/util/Map$Entry -/
def k9 : Class := { plain "java/util/Map$Entry" (some 0) with
  accessFlags := 1537
  interfaces := #[]
  cf := some (fileOf pool9 23 #[.nestHost 32] #[] 1537 69 #[] #[])
  fields := #[]
  methods := #[]
  instanceTypes := #[]
  staticTypes := #[]
  resolved := Array.replicate 178 none
  statics := none }

def pool10 : Array CpInfo := pool [(2, .class_ 4), (1, u "java/lang/Object"), (3, .class_ 10), (1, u "com/example/carmine/carmine/Node"), (0, u "key"), (0, u "Ljava/lang/Object;"), (2, u "value"), (2, u "sizeAndColours"), (0, u "I"), (2, u "left"), (0, u "Lcom/example/carmine/carmine/Node;"), (2, u "right"), (16, .class_ 44), (0, u "java/util/Map$Entry"), (27, u "MAX_SIZE"), (1, u "LEFT_RED"), (0, u "RIGHT_RED")] 57

/-- com/example/carmine/carmine/Node -/
def k10 : Class := { plain "com/example/carmine/carmine/Node" (some 0) with
  accessFlags := 32
  interfaces := #[9]
  cf := some (fileOf pool10 8 #[] #[] 32 2 #[43] #[{ accessFlags := 24, nameIndex := 72, descriptorIndex := 19, attributes := #[] }, { accessFlags := 26, nameIndex := 74, descriptorIndex := 19, attributes := #[] }, { accessFlags := 26, nameIndex := 75, descriptorIndex := 19, attributes := #[] }, { accessFlags := 0, nameIndex := 11, descriptorIndex := 12, attributes := #[] }, { accessFlags := 0, nameIndex := 15, descriptorIndex := 12, attributes := #[] }, { accessFlags := 0, nameIndex := 22, descriptorIndex := 23, attributes := #[] }, { accessFlags := 0, nameIndex := 26, descriptorIndex := 23, attributes := #[] }, { accessFlags := 2, nameIndex := 18, descriptorIndex := 19, attributes := #[] }])
  fields := #[{ name := "MAX_SIZE", type := .int, accessFlags := 24, slot := 0, constantValue := 0 }, { name := "LEFT_RED", type := .int, accessFlags := 26, slot := 1, constantValue := 0 }, { name := "RIGHT_RED", type := .int, accessFlags := 26, slot := 2, constantValue := 0 }, { name := "key", type := (.object "java/lang/Object"), accessFlags := 0, slot := 0, constantValue := 0 }, { name := "value", type := (.object "java/lang/Object"), accessFlags := 0, slot := 1, constantValue := 0 }, { name := "left", type := (.object "com/example/carmine/carmine/Node"), accessFlags := 0, slot := 2, constantValue := 0 }, { name := "right", type := (.object "com/example/carmine/carmine/Node"), accessFlags := 0, slot := 3, constantValue := 0 }, { name := "sizeAndColours", type := .int, accessFlags := 2, slot := 4, constantValue := 0 }]
  methods := #[]
  instanceTypes := #[(.object "java/lang/Object"), (.object "java/lang/Object"), (.object "com/example/carmine/carmine/Node"), (.object "com/example/carmine/carmine/Node"), .int]
  staticTypes := #[.int, .int, .int]
  resolved := Array.replicate 133 none
  statics := none }

def pool11 : Array CpInfo := pool [(1, u "java/lang/Cloneable"), (0, .class_ 1), (0, u "java/lang/Object"), (0, .class_ 3)] 3

/-- java/lang/Cloneable -/
def k11 : Class := { plain "java/lang/Cloneable" (some 0) with
  accessFlags := 1537
  interfaces := #[]
  cf := some (fileOf pool11 2 #[] #[] 1537 4 #[] #[])
  fields := #[]
  methods := #[]
  instanceTypes := #[]
  staticTypes := #[]
  resolved := Array.replicate 8 none
  statics := none }

/-- the primitive byte -/
def k12 : Class := { plain "byte" none with kind := .primitive 'B', accessFlags := 0x411 }
/-- [B -/
def k13 : Class := { plain "[B" (some 0) with kind := .array 12 .byte, interfaces := #[11, 3], accessFlags := 1041 }

/-- the primitive int -/
def k14 : Class := { plain "int" none with kind := .primitive 'I', accessFlags := 0x411 }
/-- [I -/
def k15 : Class := { plain "[I" (some 0) with kind := .array 14 .int, interfaces := #[11, 3], accessFlags := 1041 }

/-- [Lcom/example/carmine/carmine/Node; -/
def k16 : Class := { plain "[Lcom/example/carmine/carmine/Node;" (some 0) with kind := .array 10 (.object "com/example/carmine/carmine/Node"), interfaces := #[11, 3], accessFlags := 1041 }

def heap : Heap := #[]
def classes : Array Class := #[k0, k1, k2, k3, k4, k5, k6, k7, k8, k9, k10, k11, k12, k13, k14, k15, k16]
def interned : List (Array UInt16 × Addr) := []
def slotsUsed : Nat := 0
def theMethod : MethodId := ⟨1, 1⟩
def args0 : Array Value := #[.int 5, .int 3, .long 9, .int 1, .int 1, .int 2]
def aboutOver (below : List Frame) : State where
  vm := { classes := classes, interned := interned.toArray }
  heap := heap
  slotsUsed := slotsUsed
  threads := #[{ frames := .invoking theMethod args0 :: below }]
def below0 : List Frame := [.native { method := ⟨0, 0⟩, args := #[] }]
def about1 : State := aboutOver below0
def p0 : Program := .bare "" "" ""
def e0 : Env := launch0.env 0 0 0
theorem w_frames : about1.frames = Frame.invoking theMethod args0 :: below0 := rfl
set_option maxRecDepth 65536 in
theorem w_args : argsFit about1.vm theMethod args0 = true := by decide +kernel
set_option maxRecDepth 65536 in
theorem w_heap : heapFits about1 = true := by decide +kernel
set_option maxRecDepth 65536 in
theorem w_runnable : about1.curStatus? = some .runnable := by decide +kernel
set_option maxRecDepth 65536 in
theorem w_alone : about1.alone = true := by decide +kernel
set_option maxRecDepth 65536 in
theorem w_named : about1.methodNamed? x = some theMethod := by decide +kernel
set_option maxRecDepth 65536 in
theorem w_hears : about1.hears theMethod below0 = true := by decide +kernel
set_option maxRecDepth 65536 in
theorem w_ripe : about1.ripe theMethod args0 below0 = true := by decide +kernel
theorem w_running : about1.status = .running := rfl
set_option maxRecDepth 65536 in
theorem w_room : about1.hasRoom e0.platform room_1 = true :=
  launch0.hasRoom_least _ room_1 (by decide +kernel) (by decide +kernel) (by decide +kernel) (by decide +kernel) (by decide +kernel) (by decide +kernel)
theorem allAtoms_all (ts : List Jvm.Cond) (a : Array Jvm.Value) (st : Jvm.State) : (allAtoms ts).before a st = ts.all (fun c => c.before a st) := by
  induction ts with
  | nil => rfl
  | cons c t ih =>
    show (Jvm.Cond.and c (allAtoms t)).before a st = _
    rw [Jvm.Cond.before_and, ih, List.all_cons]
def words1 : List Jvm.Cond := Jvm.Cond.code x code maxLocals ret :: tables_1
/-- a 'code' word, met by the world's own term for the bytes: nothing is compared byte by byte -/
theorem code_word {y : MethodName} {bytes : ByteArray} {mx : Nat} {rt : Option FieldType} {a : Array Value} {s : State} {m : MethodId} {meth : Method} {c : Code} (h1 : s.methodNamed? y = some m) (h2 : s.vm.method? m = some meth) (h3 : meth.code = some c) (h4 : c.code = bytes)
    (h5 : (c.maxLocals == mx && c.exceptionTable.isEmpty && decide (c.maxStack ≤ mostOperands) && decide (meth.sig.returnType = rt) && !meth.locks && decide (parseMethodDescriptor y.desc = some meth.sig)) = true) : (Jvm.Cond.code y bytes mx rt).before a s = true := by
  simp only [Bool.and_eq_true, beq_iff_eq, Bool.not_eq_true', decide_eq_true_eq] at h5
  obtain ⟨⟨⟨⟨⟨g1, g2⟩, g3⟩, g4⟩, g5⟩, g6⟩ := h5
  simp [Cond.before, Cond.holds, Cond.value, h1, h2, h3, h4, g1, g2, g3, g4, g5, g6]
def isCode : Jvm.Cond → Bool
  | .code _ _ _ _ => true
  | _ => false
theorem all_split {L : List Jvm.Cond} {P : Jvm.Cond → Bool} (h1 : L.all (fun c => isCode c || P c) = true) (h2 : ∀ c ∈ L.filter isCode, P c = true) : L.all P = true := by
  refine List.all_eq_true.mpr fun c hc => ?_
  have h := List.all_eq_true.mp h1 c hc
  rcases Bool.eq_false_or_eq_true (isCode c) with hi | hi
  · exact h2 c (List.mem_filter.mpr ⟨hc, hi⟩)
  · simpa [hi] using h
set_option maxRecDepth 65536 in
theorem w_c0 : (Jvm.Cond.code x code maxLocals ret).before args0 about1 = true := code_word (m := ⟨1, 1⟩) (meth := k1m1) (c := k1c1) (by decide +kernel) rfl rfl rfl (by decide +kernel)
set_option maxRecDepth 65536 in
theorem w_c1 : (Jvm.Cond.code ({ cls := "com/example/carmine/carmine/Walk", name := "<init>", desc := "(IZ)V" } : Jvm.MethodName) prog_13_method_2_code (3 : Nat) (Option.none : Option Jvm.ClassFile.FieldType)).before args0 about1 = true := code_word (m := ⟨2, 0⟩) (meth := k2m0) (c := k2c0) (by decide +kernel) rfl rfl rfl (by decide +kernel)
set_option maxRecDepth 65536 in
theorem w_c2 : (Jvm.Cond.code ({ cls := "java/lang/Object", name := "<init>", desc := "()V" } : Jvm.MethodName) object_method_1_code (1 : Nat) (Option.none : Option Jvm.ClassFile.FieldType)).before args0 about1 = true := code_word (m := ⟨0, 0⟩) (meth := k0m0) (c := k0c0) (by decide +kernel) rfl rfl rfl (by decide +kernel)
set_option maxRecDepth 65536 in
theorem w_c3 : (Jvm.Cond.code ({ cls := "com/example/carmine/carmine/Walk", name := "newNodes", desc := "(I)[Lcom/example/carmine/carmine/Node;" } : Jvm.MethodName) prog_13_method_22_code (1 : Nat) (Option.some (Jvm.ClassFile.FieldType.array (Jvm.ClassFile.FieldType.object "com/example/carmine/carmine/Node")))).before args0 about1 = true := code_word (m := ⟨2, 2⟩) (meth := k2m2) (c := k2c2) (by decide +kernel) rfl rfl rfl (by decide +kernel)
set_option maxRecDepth 65536 in
theorem w_c4 : (Jvm.Cond.code ({ cls := "com/example/carmine/carmine/Walk", name := "length", desc := "(I)I" } : Jvm.MethodName) prog_13_method_24_code (2 : Nat) (Option.some Jvm.ClassFile.FieldType.int)).before args0 about1 = true := code_word (m := ⟨2, 3⟩) (meth := k2m3) (c := k2c3) (by decide +kernel) rfl rfl rfl (by decide +kernel)
set_option maxRecDepth 65536 in
theorem w_c5 : (Jvm.Cond.code ({ cls := "java/lang/Integer", name := "numberOfLeadingZeros", desc := "(I)I" } : Jvm.MethodName) jdk_33_method_47_code (2 : Nat) (Option.some Jvm.ClassFile.FieldType.int)).before args0 about1 = true := code_word (m := ⟨8, 0⟩) (meth := k8m0) (c := k8c0) (by decide +kernel) rfl rfl rfl (by decide +kernel)
set_option maxRecDepth 65536 in
theorem w_c6 : (Jvm.Cond.code ({ cls := "com/example/carmine/carmine/Walk", name := "endAt", desc := "(I)V" } : Jvm.MethodName) prog_13_method_16_code (2 : Nat) (Option.none : Option Jvm.ClassFile.FieldType)).before args0 about1 = true := code_word (m := ⟨2, 1⟩) (meth := k2m1) (c := k2c1) (by decide +kernel) rfl rfl rfl (by decide +kernel)
def codes1 : List Jvm.Cond := [Jvm.Cond.code x code maxLocals ret, Jvm.Cond.code ({ cls := "com/example/carmine/carmine/Walk", name := "<init>", desc := "(IZ)V" } : Jvm.MethodName) prog_13_method_2_code (3 : Nat) (Option.none : Option Jvm.ClassFile.FieldType), Jvm.Cond.code ({ cls := "java/lang/Object", name := "<init>", desc := "()V" } : Jvm.MethodName) object_method_1_code (1 : Nat) (Option.none : Option Jvm.ClassFile.FieldType), Jvm.Cond.code ({ cls := "com/example/carmine/carmine/Walk", name := "newNodes", desc := "(I)[Lcom/example/carmine/carmine/Node;" } : Jvm.MethodName) prog_13_method_22_code (1 : Nat) (Option.some (Jvm.ClassFile.FieldType.array (Jvm.ClassFile.FieldType.object "com/example/carmine/carmine/Node"))), Jvm.Cond.code ({ cls := "com/example/carmine/carmine/Walk", name := "length", desc := "(I)I" } : Jvm.MethodName) prog_13_method_24_code (2 : Nat) (Option.some Jvm.ClassFile.FieldType.int), Jvm.Cond.code ({ cls := "java/lang/Integer", name := "numberOfLeadingZeros", desc := "(I)I" } : Jvm.MethodName) jdk_33_method_47_code (2 : Nat) (Option.some Jvm.ClassFile.FieldType.int), Jvm.Cond.code ({ cls := "com/example/carmine/carmine/Walk", name := "endAt", desc := "(I)V" } : Jvm.MethodName) prog_13_method_16_code (2 : Nat) (Option.none : Option Jvm.ClassFile.FieldType)]
set_option maxRecDepth 65536 in
theorem codes_eq : words1.filter isCode = codes1 := rfl
theorem w_codes : ∀ c ∈ words1.filter isCode, c.before args0 about1 = true := by
  rw [codes_eq]
  intro c hc
  simp only [codes1, List.mem_cons, List.not_mem_nil, or_false] at hc
  rcases hc with rfl | rfl | rfl | rfl | rfl | rfl | rfl
  · exact w_c0
  · exact w_c1
  · exact w_c2
  · exact w_c3
  · exact w_c4
  · exact w_c5
  · exact w_c6
set_option maxRecDepth 65536 in
theorem w_t1 : (words1.take 24).all (fun c => isCode c || c.before args0 about1) = true := by decide +kernel
set_option maxRecDepth 65536 in
theorem w_t2 : ((words1.drop 24).take 24).all (fun c => isCode c || c.before args0 about1) = true := by decide +kernel
set_option maxRecDepth 65536 in
theorem w_t3 : ((words1.drop 24).drop 24).all (fun c => isCode c || c.before args0 about1) = true := by decide +kernel
theorem w_tables : (allAtoms (Jvm.Cond.code x code maxLocals ret :: tables_1)).before args0 about1 = true := by
  rw [allAtoms_all]
  show words1.all (fun c => c.before args0 about1) = true
  refine all_split ?_ w_codes
  rw [← List.take_append_drop 24 words1, List.all_append, w_t1, ← List.take_append_drop 24 (words1.drop 24), List.all_append, w_t2, w_t3]
  rfl
set_option maxRecDepth 65536 in
theorem w_case : (Jvm.Cond.and given_1 narrow_1).before args0 about1 = true := by decide +kernel
theorem w_applies : (headSpec (Jvm.Cond.code x code maxLocals ret :: tables_1) room_1).applies x e0.platform about1 = true :=
  (Spec.applies_iff w_frames).mpr ⟨w_running, w_runnable, w_alone, w_named, w_hears, w_ripe, w_room, w_tables⟩
theorem atStart : AtStart classFile x code maxLocals ret World_1 tables_1 room_1 Calls_1 rest_1 Pre_1 launch0 p0 e0 about1 theMethod args0 below0 :=
  ⟨lists_1, trivial, launch0.admits_env _ _ _, launch0.least_env, fairChoices_fair.cas, fairChoices_fair.clock, w_frames, w_args, w_heap, w_applies, trivial, trivial, w_case⟩
end start1
theorem witness_1 : WitnessClaimed_1 := ⟨start1.p0, start1.e0, start1.about1, start1.theMethod, start1.args0, start1.below0, start1.atStart⟩
end Jvm.Pilot.@@N@@
