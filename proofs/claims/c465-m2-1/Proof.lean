import JvmDerived
import JvmDerived.Pilot.@@N@@Statement
import JvmDerived.Pilot.@@N@@Code
set_option linter.unusedVariables false
set_option linter.unusedSimpArgs false
namespace Jvm.RoadKit
open Sem ClassFile Op Lib Jvm.Stand Jvm.Free Jvm.LawKit
section New
variable {p : Program} {l : Launch} {e : Env} {R : Room} {s : State} {m : MethodId} {args : Array Value} {below : List Frame} {meth : Method} {c : Code} {T : State} {locs : List Loc} {cells slots : Nat}
theorem retI (X : Stand p l e R s m args below meth c T locs cells slots) (hx : p.tables.exec = Jvm.exec) {pc : Nat} {Ls : Array Slot} {z : Int32} {rest : List Value} (hret : meth.sig.returnType = some .int) (hd : decode c.code pc = .ok (.ireturn, 1)) {fs : List Frame}
    (hl : ∀ (f : JFrame) (acts : List Action), f.method = m → f.locked = none → f.entered = [] → (doReturn e (T.setTop f) acts (some (.int z))).1 = T.setFrames fs) : Steps p.tables e below (T.setTop (mkF m pc Ls (.int z :: rest))) (T.setFrames fs) := by
  have hm' : T.vm.method? m = some meth := X.method'
  have hn : narrow .int (.int z) = .int z := rfl
  show Steps p.tables e below (T.setTop { method := m, pc := pc, locals := Ls, stack := _ :: rest, locked := none }) _
  jvm_step X.here [X.here.top, hx, hd, hm', hret, hn]
  first | (intro acts; rw [hl _ acts rfl rfl rfl]) | rw [hl _ _ rfl rfl rfl]
  exact Steps.refl _
/-- the run goes on from here to an end of which P holds -/
def Go (tb : Tables) (e : Env) (below : List Frame) (T : State) (g : JFrame) (P : State → Prop) : Prop := ∃ U, Steps tb e below (T.setTop g) U ∧ P U
theorem go1 {tb : Tables} {T' : State} {g g' : JFrame} {P : State → Prop} (k : ∀ t, Steps tb e below (T'.setTop g') t → Steps tb e below (T.setTop g) t) (h : Go tb e below T' g' P) : Go tb e below T g P := by
  obtain ⟨U, h1, h2⟩ := h; exact ⟨U, k U h1, h2⟩
theorem goT {tb : Tables} {T' : State} {g g' : JFrame} {P : State → Prop} (k : Steps tb e below (T.setTop g) (T'.setTop g')) (h : Go tb e below T' g' P) : Go tb e below T g P := by
  obtain ⟨U, h1, h2⟩ := h; exact ⟨U, k.trans h1, h2⟩
theorem stp {tb : Tables} {T' t : State} {g g' : JFrame} (k : ∀ t, Steps tb e below (T'.setTop g') t → Steps tb e below (T.setTop g) t) (h : Steps tb e below (T'.setTop g') t) : Steps tb e below (T.setTop g) t := k t h
theorem goB {tb : Tables} {ml : Nat} {g : JFrame} {Qp : Outcome → State → Prop} (q : entryFrame m args ml = g) (h : Go tb e below T g (fun U => ∃ o, U.status = .running ∧ Ended U below o ∧ Qp o U)) :
    ∃ s₂ o, Steps tb e below (T.setTop (entryFrame m args ml)) s₂ ∧ s₂.status = .running ∧ Ended s₂ below o ∧ Qp o s₂ := by
  obtain ⟨U, h1, o, h2, h3, h4⟩ := h; exact ⟨U, o, q ▸ h1, h2, h3, h4⟩
theorem goR (X : Stand p l e R s m args below meth c T locs cells slots) (hlocks : meth.locks = false) {v : Option Value} (hv : meth.sig.returnType = none → v = none) {g : JFrame} {kc ks : Nat} (Q : Option Value → Heap → List Loc → Prop)
    (k : ∀ fs, (∀ (f : JFrame) (acts : List Action), f.method = m → f.locked = none → f.entered = [] → (doReturn e (T.setTop f) acts v).1 = T.setFrames fs) → Steps p.tables e below (T.setTop g) (T.setFrames fs)) (hc : cells ≤ kc) (hs : slots ≤ ks) (hq : Q v T.heap locs) :
    Go p.tables e below T g (fun U => ∃ o, U.status = .running ∧ Ended U below o ∧ ∃ v L, o = .returned v ∧ Q v U.heap L ∧ FrameEnd s o U L kc ks) := by
  obtain ⟨fs, hr, hrun, hended, hW, hsame⟩ := X.leave hv hlocks
  exact ⟨_, k fs hr, _, hrun, hended, _, _, rfl, hq, ⟨_, rfl⟩, hW, hsame.mono hc hs⟩
theorem fitsG {C : String} {u : Value} (h : u.isRef = true) : fits (.object C) u = true := by rcases ref_cases h with rfl | ⟨a, rfl⟩ <;> rfl
theorem selPriv {Z : State} {a0 : Array Value} {y : MethodName} {n : Nat} (hZ : Z.Warmed39 s.vm) (wi : (Cond.instantiable y.cls n).before a0 Z = true) (wp : (Cond.privateMethod y).before a0 Z = true) (wm : (Cond.instanceMethod y).before a0 Z = true) (hy : y.cls ≠ "java/lang/invoke/MethodHandle" ∧ y.cls ≠ "java/lang/invoke/VarHandle") : (Cond.selects y.cls y y).before args s = true := by
  obtain ⟨c, k, h1, h2, -, h4, -⟩ := Cond.instantiable_spec (show (Cond.instantiable y.cls n).before args s = true from mv hZ wi)
  have h5 : k.isInterface = false := by
    cases hq : k.isInterface
    · rfl
    · rw [hq] at h4; simp at h4
  exact selects_self_of_private h1 h2 h5 (Cond.privateMethod_at (mvP hZ wp (args := #[]))) (mv hZ wm) hy
theorem nsRoot {Z : State} {a0 : Array Value} {O K : String} {n : Nat} (w : (Cond.noSuperclass O).before a0 Z = true) (wk : (Cond.instantiable K n).before a0 Z = true) (hn : O ≠ K) : NS Z O K := by
  obtain ⟨c, k, h1, h2, h3, -⟩ := Cond.noSuperclass_spec w
  obtain ⟨t, kt, g1, -⟩ := Cond.instantiable_spec wk
  have ne := ids_ne h1 g1 hn
  exact ⟨c, t, h1, g1, fun fuel => by cases fuel <;> simp [Vm.isSubclassAux, ne, h2, h3]⟩
theorem nsNo {Z : State} {a0 : Array Value} {C S K : String} {n : Nat} (w : (Cond.superclass C S).before a0 Z = true) (wk : (Cond.instantiable K n).before a0 Z = true) (N : NS Z C K) (hn : C ≠ K) : ∃ c t, Z.vm.findClass C = some c ∧ Z.vm.findClass K = some t ∧ Z.vm.assignable c t = false := by
  obtain ⟨c, t, h0, g0, n3⟩ := N
  obtain ⟨pp, k, kp, -, h2, -, -, h5, -, -⟩ := Cond.superclass_spec h0 w
  obtain ⟨t', kt, g1, g2, g3, g4, -⟩ := Cond.instantiable_spec wk
  cases g0.symm.trans g1
  have ne := ids_ne h0 g0 hn
  have g5 : kt.isInterface = false := by
    cases hq : kt.isInterface
    · rfl
    · rw [hq] at g4; simp at g4
  refine ⟨c, t, h0, g0, ?_⟩
  show Z.vm.assignableAux (255 + 1) c t = false
  simp [Vm.assignableAux, ne, h2, g2, h5, g3, g5, Vm.isSubclass, n3]
theorem lenS {Z : State} {t : Term} {a : Addr} {cl : Cell} {n : Int32} {ty : FieldType} (ev : t.eval args Z none [] Z = some (.ref a)) (A : Arr Z Z.heap a cl ty) (h : (Term.length t).eval args Z none [] Z = some (.int n)) :
    cl.slots.size < 2 ^ 31 ∧ cl.slots.size.toInt32 = n ∧ cl.slots.size = n.toNatClampNeg ∧ ¬ n < 0 := by
  have ha := A.fin (Vm.Alike.refl _)
  by_cases q : cl.slots.size < 2 ^ 31
  · have e := len_f ev ha q
    rw [h] at e
    have e2 : n = cl.slots.size.toInt32 := by injection e with e; injection e
    have e3 := len_toInt q
    refine ⟨q, e2.symm, ?_, ?_⟩
    · rw [e2]; simp only [Int32.toNatClampNeg, e3]; rfl
    · rw [e2, Int32.lt_iff_toInt_lt, e3]; show ¬ (cl.slots.size : Int) < 0; omega
  · exfalso
    have q' : ¬ cl.slots.size < 2147483648 := q
    simp [Term.eval, ev, ha, q'] at h
end New
end Jvm.RoadKit
namespace Jvm.Pilot.@@N@@
open Jvm Jvm.ClassFile Sem Op Lib Jvm.Free Jvm.Stand Jvm.LawKit Jvm.RoadKit Bundle Jvm.Pilot.@@N@@.Jvm.D
theorem d1_0 : decode method_2_code 0 = .ok (.iload_n 0, 1) := by decide +kernel
theorem d1_1 : decode method_2_code 1 = .ok (.ifCond .ne 7, 3) := by decide +kernel
theorem d1_4 : decode method_2_code 4 = .ok (.getstatic 7, 3) := by decide +kernel
theorem d1_7 : decode method_2_code 7 = .ok (.areturn, 1) := by decide +kernel
theorem d1_8 : decode method_2_code 8 = .ok (.iload_n 0, 1) := by decide +kernel
theorem d1_9 : decode method_2_code 9 = .ok (.iconst 1, 1) := by decide +kernel
theorem d1_10 : decode method_2_code 10 = .ok (.if_icmp .ne 7, 3) := by decide +kernel
theorem d1_13 : decode method_2_code 13 = .ok (.getstatic 13, 3) := by decide +kernel
theorem d1_16 : decode method_2_code 16 = .ok (.areturn, 1) := by decide +kernel
theorem d1_17 : decode method_2_code 17 = .ok (.iload_n 0, 1) := by decide +kernel
theorem d1_18 : decode method_2_code 18 = .ok (.iconst 2, 1) := by decide +kernel
theorem d1_19 : decode method_2_code 19 = .ok (.if_icmp .ne 7, 3) := by decide +kernel
theorem d1_22 : decode method_2_code 22 = .ok (.getstatic 16, 3) := by decide +kernel
theorem d1_25 : decode method_2_code 25 = .ok (.areturn, 1) := by decide +kernel
theorem d1_26 : decode method_2_code 26 = .ok (.iload_n 0, 1) := by decide +kernel
theorem d1_27 : decode method_2_code 27 = .ok (.iconst 3, 1) := by decide +kernel
theorem d1_28 : decode method_2_code 28 = .ok (.if_icmp .ne 7, 3) := by decide +kernel
theorem d1_31 : decode method_2_code 31 = .ok (.getstatic 19, 3) := by decide +kernel
theorem d1_34 : decode method_2_code 34 = .ok (.areturn, 1) := by decide +kernel
theorem d1_35 : decode method_2_code 35 = .ok (.iload_n 0, 1) := by decide +kernel
theorem d1_36 : decode method_2_code 36 = .ok (.iconst 4, 1) := by decide +kernel
theorem d1_37 : decode method_2_code 37 = .ok (.if_icmp .ne 7, 3) := by decide +kernel
theorem d1_40 : decode method_2_code 40 = .ok (.getstatic 22, 3) := by decide +kernel
theorem d1_43 : decode method_2_code 43 = .ok (.areturn, 1) := by decide +kernel
theorem d1_44 : decode method_2_code 44 = .ok (.iload_n 0, 1) := by decide +kernel
theorem d1_45 : decode method_2_code 45 = .ok (.iconst 5, 1) := by decide +kernel
theorem d1_46 : decode method_2_code 46 = .ok (.if_icmp .ne 7, 3) := by decide +kernel
theorem d1_49 : decode method_2_code 49 = .ok (.getstatic 25, 3) := by decide +kernel
theorem d1_52 : decode method_2_code 52 = .ok (.areturn, 1) := by decide +kernel
theorem d1_53 : decode method_2_code 53 = .ok (.iload_n 0, 1) := by decide +kernel
theorem d1_54 : decode method_2_code 54 = .ok (.bipush 6, 2) := by decide +kernel
theorem d1_56 : decode method_2_code 56 = .ok (.if_icmp .ne 7, 3) := by decide +kernel
theorem d1_59 : decode method_2_code 59 = .ok (.getstatic 28, 3) := by decide +kernel
theorem d1_62 : decode method_2_code 62 = .ok (.areturn, 1) := by decide +kernel
theorem d1_63 : decode method_2_code 63 = .ok (.iload_n 0, 1) := by decide +kernel
theorem d1_64 : decode method_2_code 64 = .ok (.bipush 7, 2) := by decide +kernel
theorem d1_66 : decode method_2_code 66 = .ok (.if_icmp .ne 7, 3) := by decide +kernel
theorem d1_69 : decode method_2_code 69 = .ok (.getstatic 31, 3) := by decide +kernel
theorem d1_72 : decode method_2_code 72 = .ok (.areturn, 1) := by decide +kernel
theorem d1_73 : decode method_2_code 73 = .ok (.iload_n 0, 1) := by decide +kernel
theorem d1_74 : decode method_2_code 74 = .ok (.bipush 8, 2) := by decide +kernel
theorem d1_76 : decode method_2_code 76 = .ok (.if_icmp .ne 7, 3) := by decide +kernel
theorem d1_79 : decode method_2_code 79 = .ok (.getstatic 34, 3) := by decide +kernel
theorem d1_82 : decode method_2_code 82 = .ok (.areturn, 1) := by decide +kernel
theorem d1_83 : decode method_2_code 83 = .ok (.iload_n 0, 1) := by decide +kernel
theorem d1_84 : decode method_2_code 84 = .ok (.bipush 9, 2) := by decide +kernel
theorem d1_86 : decode method_2_code 86 = .ok (.if_icmp .ne 7, 3) := by decide +kernel
theorem d1_89 : decode method_2_code 89 = .ok (.getstatic 37, 3) := by decide +kernel
theorem d1_92 : decode method_2_code 92 = .ok (.areturn, 1) := by decide +kernel
theorem d1_93 : decode method_2_code 93 = .ok (.iload_n 0, 1) := by decide +kernel
theorem d1_94 : decode method_2_code 94 = .ok (.bipush 10, 2) := by decide +kernel
theorem d1_96 : decode method_2_code 96 = .ok (.if_icmp .ne 7, 3) := by decide +kernel
theorem d1_99 : decode method_2_code 99 = .ok (.getstatic 40, 3) := by decide +kernel
theorem d1_102 : decode method_2_code 102 = .ok (.areturn, 1) := by decide +kernel
theorem d1_103 : decode method_2_code 103 = .ok (.getstatic 43, 3) := by decide +kernel
theorem d1_106 : decode method_2_code 106 = .ok (.areturn, 1) := by decide +kernel
theorem pn_1 : plainName "com/example/stubwright/stubwright/idl/PrimitiveTypeIsIntegerPinLaw" = true := by first | (simp [plainName, overriddenIn]; done) | decide +kernel
theorem ef_1 (m : MethodId) (p1 : Int32) : entryFrame m #[(.int p1)] 1 = mkF m 0 #[.val (.int p1)] [] := by first | (simp [entryFrame, mkF, argsToLocals, Value.category]; done) | rfl
def own_1 (p1 : Int32) (a_BOOLEAN : Addr) (a_OCTET : Addr) (a_WCHAR : Addr) (a_UNSIGNED_LONG : Addr) (a_DOUBLE : Addr) (a_SHORT : Addr) (a_LONG_LONG : Addr) (a_CHAR : Addr) (a_FLOAT : Addr) (a_UNSIGNED_LONG_LONG : Addr) (a_LONG : Addr) (a_UNSIGNED_SHORT : Addr) : Addr :=
  if p1 = (0 : Int32) then
    a_BOOLEAN
  else
    if p1 = (1 : Int32) then
      a_CHAR
    else
      if p1 = (2 : Int32) then
        a_WCHAR
      else
        if p1 = (3 : Int32) then
          a_OCTET
        else
          if p1 = (4 : Int32) then
            a_SHORT
          else
            if p1 = (5 : Int32) then
              a_UNSIGNED_SHORT
            else
              if p1 = (6 : Int32) then
                a_LONG
              else
                if p1 = (7 : Int32) then
                  a_UNSIGNED_LONG
                else
                  if p1 = (8 : Int32) then
                    a_LONG_LONG
                  else
                    if p1 = (9 : Int32) then
                      a_UNSIGNED_LONG_LONG
                    else
                      if p1 = (10 : Int32) then
                        a_FLOAT
                      else
                        a_DOUBLE
def Q1 (Z : State) (p1 : Int32) (a_BOOLEAN : Addr) (a_OCTET : Addr) (a_WCHAR : Addr) (a_UNSIGNED_LONG : Addr) (a_DOUBLE : Addr) (a_SHORT : Addr) (a_LONG_LONG : Addr) (a_CHAR : Addr) (a_FLOAT : Addr) (a_UNSIGNED_LONG_LONG : Addr) (a_LONG : Addr) (a_UNSIGNED_SHORT : Addr) (h0 : Heap) (n0 : Nat) (v : Option Value) (h : Heap) (L : List Loc) : Prop := v = some (.ref (own_1 p1 a_BOOLEAN a_OCTET a_WCHAR a_UNSIGNED_LONG a_DOUBLE a_SHORT a_LONG_LONG a_CHAR a_FLOAT a_UNSIGNED_LONG_LONG a_LONG a_UNSIGNED_SHORT)) ∧ Fr n0 L ∧ h = h0
set_option maxRecDepth 65536 in
set_option maxHeartbeats 40000000 in
theorem rm1 (l : Launch) (Z : State) (a0 : Array Value) (hw : ∀ d ∈ tables_1, d.before a0 Z = true) (ws : List Jvm.Cond) (p1 : Int32) (a_BOOLEAN : Addr) (a_OCTET : Addr) (a_WCHAR : Addr) (a_UNSIGNED_LONG : Addr) (a_DOUBLE : Addr) (a_SHORT : Addr) (a_LONG_LONG : Addr) (a_CHAR : Addr) (a_FLOAT : Addr) (a_UNSIGNED_LONG_LONG : Addr) (a_LONG : Addr) (a_UNSIGNED_SHORT : Addr) (h0 : Heap) (n0 : Nat) (Z0 : n0 ≤ h0.size) (O0 : Old Z n0 h0) (S_BOOLEAN : Sta Z Z.heap "com/example/stubwright/stubwright/idl/PrimitiveType" "BOOLEAN" "Lcom/example/stubwright/stubwright/idl/PrimitiveType;" (.ref a_BOOLEAN)) (S_OCTET : Sta Z Z.heap "com/example/stubwright/stubwright/idl/PrimitiveType" "OCTET" "Lcom/example/stubwright/stubwright/idl/PrimitiveType;" (.ref a_OCTET)) (S_WCHAR : Sta Z Z.heap "com/example/stubwright/stubwright/idl/PrimitiveType" "WCHAR" "Lcom/example/stubwright/stubwright/idl/PrimitiveType;" (.ref a_WCHAR)) (S_UNSIGNED_LONG : Sta Z Z.heap "com/example/stubwright/stubwright/idl/PrimitiveType" "UNSIGNED_LONG" "Lcom/example/stubwright/stubwright/idl/PrimitiveType;" (.ref a_UNSIGNED_LONG)) (S_DOUBLE : Sta Z Z.heap "com/example/stubwright/stubwright/idl/PrimitiveType" "DOUBLE" "Lcom/example/stubwright/stubwright/idl/PrimitiveType;" (.ref a_DOUBLE)) (S_SHORT : Sta Z Z.heap "com/example/stubwright/stubwright/idl/PrimitiveType" "SHORT" "Lcom/example/stubwright/stubwright/idl/PrimitiveType;" (.ref a_SHORT)) (S_LONG_LONG : Sta Z Z.heap "com/example/stubwright/stubwright/idl/PrimitiveType" "LONG_LONG" "Lcom/example/stubwright/stubwright/idl/PrimitiveType;" (.ref a_LONG_LONG)) (S_CHAR : Sta Z Z.heap "com/example/stubwright/stubwright/idl/PrimitiveType" "CHAR" "Lcom/example/stubwright/stubwright/idl/PrimitiveType;" (.ref a_CHAR)) (S_FLOAT : Sta Z Z.heap "com/example/stubwright/stubwright/idl/PrimitiveType" "FLOAT" "Lcom/example/stubwright/stubwright/idl/PrimitiveType;" (.ref a_FLOAT)) (S_UNSIGNED_LONG_LONG : Sta Z Z.heap "com/example/stubwright/stubwright/idl/PrimitiveType" "UNSIGNED_LONG_LONG" "Lcom/example/stubwright/stubwright/idl/PrimitiveType;" (.ref a_UNSIGNED_LONG_LONG)) (S_LONG : Sta Z Z.heap "com/example/stubwright/stubwright/idl/PrimitiveType" "LONG" "Lcom/example/stubwright/stubwright/idl/PrimitiveType;" (.ref a_LONG)) (S_UNSIGNED_SHORT : Sta Z Z.heap "com/example/stubwright/stubwright/idl/PrimitiveType" "UNSIGNED_SHORT" "Lcom/example/stubwright/stubwright/idl/PrimitiveType;" (.ref a_UNSIGNED_SHORT)) :
    MetFree l (⟨"com/example/stubwright/stubwright/idl/PrimitiveTypeIsIntegerPinLaw", "pick", "(I)Lcom/example/stubwright/stubwright/idl/PrimitiveType;"⟩ : MethodName) (head1 (Jvm.Cond.code (⟨"com/example/stubwright/stubwright/idl/PrimitiveTypeIsIntegerPinLaw", "pick", "(I)Lcom/example/stubwright/stubwright/idl/PrimitiveType;"⟩ : MethodName) method_2_code 1 (some (.object "com/example/stubwright/stubwright/idl/PrimitiveType")) :: ws) ({ frames := 0, cells := 0, slots := 0, locals := 0 } : Room)) (fun a U => a = #[(.int p1)] ∧ Z.Warmed39 U.vm ∧ U.heap = h0) (fun _ _ _ _ _ => True) (fun _ U o U' => ∃ v L, o = .returned v ∧ Q1 Z p1 a_BOOLEAN a_OCTET a_WCHAR a_UNSIGNED_LONG a_DOUBLE a_SHORT a_LONG_LONG a_CHAR a_FLOAT a_UNSIGNED_LONG_LONG a_LONG a_UNSIGNED_SHORT h0 n0 v U'.heap L ∧ FrameEnd U o U' L ({ frames := 0, cells := 0, slots := 0, locals := 0 } : Room).cells ({ frames := 0, cells := 0, slots := 0, locals := 0 } : Room).slots) := by
  refine MetFree.of_bodySF (plainFor_of_name pn_1) hisR ?_
  intro p e s m args below meth c s₁ Bd hml0 hP hK
  obtain ⟨rfl, hZ, hh⟩ := hP
  have hx := Bd.exec
  have hby := Bd.bytes
  have hml : c.maxLocals = 1 := hml0
  have hown : s.vm.findClass "com/example/stubwright/stubwright/idl/PrimitiveTypeIsIntegerPinLaw" = some m.cls := findClass_of_methodNamed Bd.named
  have hnm := (name_of_methodNamed Bd.named Bd.method).1
  have X0 : Stand p l e ({ frames := 0, cells := 0, slots := 0, locals := 0 } : Room) s m #[(.int p1)] below meth c s₁ [] 0 0 := Stand.of_body Bd
  have e0 : s₁.heap = h0 := by rw [← hh, Bd.state]; rfl
  have N0 := Fr.nil n0
  refine goB (ef_1 m p1) ?_
  show Go p.tables e below s₁ (mkF m 0 #[.val (.int p1)] []) _
  refine go1 (fun _ => XS.iloadN X0.here hx rfl (hb hby d1_0) rfl) ?_
  show Go p.tables e below s₁ (mkF m 1 #[.val (.int p1)] [(.int p1)]) _
  by_cases hc1 : p1 = (0 : Int32)
  · skip
    refine go1 (fun _ => XS.ifNo X0.here hx rfl (hb hby d1_1) rfl ((if0 _ _).trans (teq hc1).2)) ?_
    show Go p.tables e below s₁ (mkF m 4 #[.val (.int p1)] []) _
    obtain ⟨T2, X2, e2, st2⟩ := getS2 X0 hx hZ hown (host := "") (Or.inl (hw _ (List.mem_of_getElem? (i := 5) rfl))) Via.refl e0 (S_BOOLEAN.ext O0.2) (g := (mkF m 4 #[.val (.int p1)] [])) rfl (hb hby d1_4)
    refine go1 st2 ?_
    show Go p.tables e below T2 (mkF m 7 #[.val (.int p1)] [(.ref a_BOOLEAN)]) _
    refine goR X2 (BodyLoose.notSynchronized Bd) (v := (some (.ref a_BOOLEAN))) (fun h => by rw [Bd.returns] at h; cases h) (Q1 Z p1 a_BOOLEAN a_OCTET a_WCHAR a_UNSIGNED_LONG a_DOUBLE a_SHORT a_LONG_LONG a_CHAR a_FLOAT a_UNSIGNED_LONG_LONG a_LONG a_UNSIGNED_SHORT h0 n0) (fun fs hr => retOut X2 hx (t := (.object "com/example/stubwright/stubwright/idl/PrimitiveType")) (w := (.ref a_BOOLEAN)) Bd.returns rfl (Or.inr (Or.inr (Or.inr (Or.inr ⟨rfl, rfl, rfl⟩)))) (hb hby d1_7) hr) (by decide) (by decide) ?_
    show Q1 Z p1 a_BOOLEAN a_OCTET a_WCHAR a_UNSIGNED_LONG a_DOUBLE a_SHORT a_LONG_LONG a_CHAR a_FLOAT a_UNSIGNED_LONG_LONG a_LONG a_UNSIGNED_SHORT h0 n0 _ T2.heap _
    rw [e2]
    exact ⟨(by rw [own_1, if_pos hc1]), N0, rfl⟩
  · skip
    refine go1 (fun _ => XS.ifYes X0.here hx rfl (pc0 := 1) (pc' := 8) rfl (hb hby d1_1) rfl ((if0 _ _).trans (feq hc1).2) (by decide) (by decide)) ?_
    show Go p.tables e below s₁ (mkF m 8 #[.val (.int p1)] []) _
    refine go1 (fun _ => XS.iloadN X0.here hx rfl (hb hby d1_8) rfl) ?_
    show Go p.tables e below s₁ (mkF m 9 #[.val (.int p1)] [(.int p1)]) _
    refine go1 (fun _ => XS.iconst X0.here hx rfl (hb hby d1_9)) ?_
    show Go p.tables e below s₁ (mkF m 10 #[.val (.int p1)] [(.int (1 : Int32)), (.int p1)]) _
    by_cases hc3 : p1 = (1 : Int32)
    · skip
      refine go1 (fun _ => XS.icmpNo X0.here hx rfl (hb hby d1_10) rfl (teq hc3).2) ?_
      show Go p.tables e below s₁ (mkF m 13 #[.val (.int p1)] []) _
      obtain ⟨T4, X4, e4, st4⟩ := getS2 X0 hx hZ hown (host := "") (Or.inl (hw _ (List.mem_of_getElem? (i := 31) rfl))) Via.refl e0 (S_CHAR.ext O0.2) (g := (mkF m 13 #[.val (.int p1)] [])) rfl (hb hby d1_13)
      refine go1 st4 ?_
      show Go p.tables e below T4 (mkF m 16 #[.val (.int p1)] [(.ref a_CHAR)]) _
      refine goR X4 (BodyLoose.notSynchronized Bd) (v := (some (.ref a_CHAR))) (fun h => by rw [Bd.returns] at h; cases h) (Q1 Z p1 a_BOOLEAN a_OCTET a_WCHAR a_UNSIGNED_LONG a_DOUBLE a_SHORT a_LONG_LONG a_CHAR a_FLOAT a_UNSIGNED_LONG_LONG a_LONG a_UNSIGNED_SHORT h0 n0) (fun fs hr => retOut X4 hx (t := (.object "com/example/stubwright/stubwright/idl/PrimitiveType")) (w := (.ref a_CHAR)) Bd.returns rfl (Or.inr (Or.inr (Or.inr (Or.inr ⟨rfl, rfl, rfl⟩)))) (hb hby d1_16) hr) (by decide) (by decide) ?_
      show Q1 Z p1 a_BOOLEAN a_OCTET a_WCHAR a_UNSIGNED_LONG a_DOUBLE a_SHORT a_LONG_LONG a_CHAR a_FLOAT a_UNSIGNED_LONG_LONG a_LONG a_UNSIGNED_SHORT h0 n0 _ T4.heap _
      rw [e4]
      exact ⟨(by rw [own_1, if_neg hc1, if_pos hc3]), N0, rfl⟩
    · skip
      refine go1 (fun _ => XS.icmpYes X0.here hx rfl (pc0 := 10) (pc' := 17) rfl (hb hby d1_10) rfl (feq hc3).2 (by decide) (by decide)) ?_
      show Go p.tables e below s₁ (mkF m 17 #[.val (.int p1)] []) _
      refine go1 (fun _ => XS.iloadN X0.here hx rfl (hb hby d1_17) rfl) ?_
      show Go p.tables e below s₁ (mkF m 18 #[.val (.int p1)] [(.int p1)]) _
      refine go1 (fun _ => XS.iconst X0.here hx rfl (hb hby d1_18)) ?_
      show Go p.tables e below s₁ (mkF m 19 #[.val (.int p1)] [(.int (2 : Int32)), (.int p1)]) _
      by_cases hc5 : p1 = (2 : Int32)
      · skip
        refine go1 (fun _ => XS.icmpNo X0.here hx rfl (hb hby d1_19) rfl (teq hc5).2) ?_
        show Go p.tables e below s₁ (mkF m 22 #[.val (.int p1)] []) _
        obtain ⟨T6, X6, e6, st6⟩ := getS2 X0 hx hZ hown (host := "") (Or.inl (hw _ (List.mem_of_getElem? (i := 21) rfl))) Via.refl e0 (S_WCHAR.ext O0.2) (g := (mkF m 22 #[.val (.int p1)] [])) rfl (hb hby d1_22)
        refine go1 st6 ?_
        show Go p.tables e below T6 (mkF m 25 #[.val (.int p1)] [(.ref a_WCHAR)]) _
        refine goR X6 (BodyLoose.notSynchronized Bd) (v := (some (.ref a_WCHAR))) (fun h => by rw [Bd.returns] at h; cases h) (Q1 Z p1 a_BOOLEAN a_OCTET a_WCHAR a_UNSIGNED_LONG a_DOUBLE a_SHORT a_LONG_LONG a_CHAR a_FLOAT a_UNSIGNED_LONG_LONG a_LONG a_UNSIGNED_SHORT h0 n0) (fun fs hr => retOut X6 hx (t := (.object "com/example/stubwright/stubwright/idl/PrimitiveType")) (w := (.ref a_WCHAR)) Bd.returns rfl (Or.inr (Or.inr (Or.inr (Or.inr ⟨rfl, rfl, rfl⟩)))) (hb hby d1_25) hr) (by decide) (by decide) ?_
        show Q1 Z p1 a_BOOLEAN a_OCTET a_WCHAR a_UNSIGNED_LONG a_DOUBLE a_SHORT a_LONG_LONG a_CHAR a_FLOAT a_UNSIGNED_LONG_LONG a_LONG a_UNSIGNED_SHORT h0 n0 _ T6.heap _
        rw [e6]
        exact ⟨(by rw [own_1, if_neg hc1, if_neg hc3, if_pos hc5]), N0, rfl⟩
      · skip
        refine go1 (fun _ => XS.icmpYes X0.here hx rfl (pc0 := 19) (pc' := 26) rfl (hb hby d1_19) rfl (feq hc5).2 (by decide) (by decide)) ?_
        show Go p.tables e below s₁ (mkF m 26 #[.val (.int p1)] []) _
        refine go1 (fun _ => XS.iloadN X0.here hx rfl (hb hby d1_26) rfl) ?_
        show Go p.tables e below s₁ (mkF m 27 #[.val (.int p1)] [(.int p1)]) _
        refine go1 (fun _ => XS.iconst X0.here hx rfl (hb hby d1_27)) ?_
        show Go p.tables e below s₁ (mkF m 28 #[.val (.int p1)] [(.int (3 : Int32)), (.int p1)]) _
        by_cases hc7 : p1 = (3 : Int32)
        · skip
          refine go1 (fun _ => XS.icmpNo X0.here hx rfl (hb hby d1_28) rfl (teq hc7).2) ?_
          show Go p.tables e below s₁ (mkF m 31 #[.val (.int p1)] []) _
          obtain ⟨T8, X8, e8, st8⟩ := getS2 X0 hx hZ hown (host := "") (Or.inl (hw _ (List.mem_of_getElem? (i := 18) rfl))) Via.refl e0 (S_OCTET.ext O0.2) (g := (mkF m 31 #[.val (.int p1)] [])) rfl (hb hby d1_31)
          refine go1 st8 ?_
          show Go p.tables e below T8 (mkF m 34 #[.val (.int p1)] [(.ref a_OCTET)]) _
          refine goR X8 (BodyLoose.notSynchronized Bd) (v := (some (.ref a_OCTET))) (fun h => by rw [Bd.returns] at h; cases h) (Q1 Z p1 a_BOOLEAN a_OCTET a_WCHAR a_UNSIGNED_LONG a_DOUBLE a_SHORT a_LONG_LONG a_CHAR a_FLOAT a_UNSIGNED_LONG_LONG a_LONG a_UNSIGNED_SHORT h0 n0) (fun fs hr => retOut X8 hx (t := (.object "com/example/stubwright/stubwright/idl/PrimitiveType")) (w := (.ref a_OCTET)) Bd.returns rfl (Or.inr (Or.inr (Or.inr (Or.inr ⟨rfl, rfl, rfl⟩)))) (hb hby d1_34) hr) (by decide) (by decide) ?_
          show Q1 Z p1 a_BOOLEAN a_OCTET a_WCHAR a_UNSIGNED_LONG a_DOUBLE a_SHORT a_LONG_LONG a_CHAR a_FLOAT a_UNSIGNED_LONG_LONG a_LONG a_UNSIGNED_SHORT h0 n0 _ T8.heap _
          rw [e8]
          exact ⟨(by rw [own_1, if_neg hc1, if_neg hc3, if_neg hc5, if_pos hc7]), N0, rfl⟩
        · skip
          refine go1 (fun _ => XS.icmpYes X0.here hx rfl (pc0 := 28) (pc' := 35) rfl (hb hby d1_28) rfl (feq hc7).2 (by decide) (by decide)) ?_
          show Go p.tables e below s₁ (mkF m 35 #[.val (.int p1)] []) _
          refine go1 (fun _ => XS.iloadN X0.here hx rfl (hb hby d1_35) rfl) ?_
          show Go p.tables e below s₁ (mkF m 36 #[.val (.int p1)] [(.int p1)]) _
          refine go1 (fun _ => XS.iconst X0.here hx rfl (hb hby d1_36)) ?_
          show Go p.tables e below s₁ (mkF m 37 #[.val (.int p1)] [(.int (4 : Int32)), (.int p1)]) _
          by_cases hc9 : p1 = (4 : Int32)
          · skip
            refine go1 (fun _ => XS.icmpNo X0.here hx rfl (hb hby d1_37) rfl (teq hc9).2) ?_
            show Go p.tables e below s₁ (mkF m 40 #[.val (.int p1)] []) _
            obtain ⟨T10, X10, e10, st10⟩ := getS2 X0 hx hZ hown (host := "") (Or.inl (hw _ (List.mem_of_getElem? (i := 27) rfl))) Via.refl e0 (S_SHORT.ext O0.2) (g := (mkF m 40 #[.val (.int p1)] [])) rfl (hb hby d1_40)
            refine go1 st10 ?_
            show Go p.tables e below T10 (mkF m 43 #[.val (.int p1)] [(.ref a_SHORT)]) _
            refine goR X10 (BodyLoose.notSynchronized Bd) (v := (some (.ref a_SHORT))) (fun h => by rw [Bd.returns] at h; cases h) (Q1 Z p1 a_BOOLEAN a_OCTET a_WCHAR a_UNSIGNED_LONG a_DOUBLE a_SHORT a_LONG_LONG a_CHAR a_FLOAT a_UNSIGNED_LONG_LONG a_LONG a_UNSIGNED_SHORT h0 n0) (fun fs hr => retOut X10 hx (t := (.object "com/example/stubwright/stubwright/idl/PrimitiveType")) (w := (.ref a_SHORT)) Bd.returns rfl (Or.inr (Or.inr (Or.inr (Or.inr ⟨rfl, rfl, rfl⟩)))) (hb hby d1_43) hr) (by decide) (by decide) ?_
            show Q1 Z p1 a_BOOLEAN a_OCTET a_WCHAR a_UNSIGNED_LONG a_DOUBLE a_SHORT a_LONG_LONG a_CHAR a_FLOAT a_UNSIGNED_LONG_LONG a_LONG a_UNSIGNED_SHORT h0 n0 _ T10.heap _
            rw [e10]
            exact ⟨(by rw [own_1, if_neg hc1, if_neg hc3, if_neg hc5, if_neg hc7, if_pos hc9]), N0, rfl⟩
          · skip
            refine go1 (fun _ => XS.icmpYes X0.here hx rfl (pc0 := 37) (pc' := 44) rfl (hb hby d1_37) rfl (feq hc9).2 (by decide) (by decide)) ?_
            show Go p.tables e below s₁ (mkF m 44 #[.val (.int p1)] []) _
            refine go1 (fun _ => XS.iloadN X0.here hx rfl (hb hby d1_44) rfl) ?_
            show Go p.tables e below s₁ (mkF m 45 #[.val (.int p1)] [(.int p1)]) _
            refine go1 (fun _ => XS.iconst X0.here hx rfl (hb hby d1_45)) ?_
            show Go p.tables e below s₁ (mkF m 46 #[.val (.int p1)] [(.int (5 : Int32)), (.int p1)]) _
            by_cases hc11 : p1 = (5 : Int32)
            · skip
              refine go1 (fun _ => XS.icmpNo X0.here hx rfl (hb hby d1_46) rfl (teq hc11).2) ?_
              show Go p.tables e below s₁ (mkF m 49 #[.val (.int p1)] []) _
              obtain ⟨T12, X12, e12, st12⟩ := getS2 X0 hx hZ hown (host := "") (Or.inl (hw _ (List.mem_of_getElem? (i := 39) rfl))) Via.refl e0 (S_UNSIGNED_SHORT.ext O0.2) (g := (mkF m 49 #[.val (.int p1)] [])) rfl (hb hby d1_49)
              refine go1 st12 ?_
              show Go p.tables e below T12 (mkF m 52 #[.val (.int p1)] [(.ref a_UNSIGNED_SHORT)]) _
              refine goR X12 (BodyLoose.notSynchronized Bd) (v := (some (.ref a_UNSIGNED_SHORT))) (fun h => by rw [Bd.returns] at h; cases h) (Q1 Z p1 a_BOOLEAN a_OCTET a_WCHAR a_UNSIGNED_LONG a_DOUBLE a_SHORT a_LONG_LONG a_CHAR a_FLOAT a_UNSIGNED_LONG_LONG a_LONG a_UNSIGNED_SHORT h0 n0) (fun fs hr => retOut X12 hx (t := (.object "com/example/stubwright/stubwright/idl/PrimitiveType")) (w := (.ref a_UNSIGNED_SHORT)) Bd.returns rfl (Or.inr (Or.inr (Or.inr (Or.inr ⟨rfl, rfl, rfl⟩)))) (hb hby d1_52) hr) (by decide) (by decide) ?_
              show Q1 Z p1 a_BOOLEAN a_OCTET a_WCHAR a_UNSIGNED_LONG a_DOUBLE a_SHORT a_LONG_LONG a_CHAR a_FLOAT a_UNSIGNED_LONG_LONG a_LONG a_UNSIGNED_SHORT h0 n0 _ T12.heap _
              rw [e12]
              exact ⟨(by rw [own_1, if_neg hc1, if_neg hc3, if_neg hc5, if_neg hc7, if_neg hc9, if_pos hc11]), N0, rfl⟩
            · skip
              refine go1 (fun _ => XS.icmpYes X0.here hx rfl (pc0 := 46) (pc' := 53) rfl (hb hby d1_46) rfl (feq hc11).2 (by decide) (by decide)) ?_
              show Go p.tables e below s₁ (mkF m 53 #[.val (.int p1)] []) _
              refine go1 (fun _ => XS.iloadN X0.here hx rfl (hb hby d1_53) rfl) ?_
              show Go p.tables e below s₁ (mkF m 54 #[.val (.int p1)] [(.int p1)]) _
              refine go1 (fun _ => XS.bipush X0.here hx rfl (hb hby d1_54)) ?_
              show Go p.tables e below s₁ (mkF m 56 #[.val (.int p1)] [(.int (6 : Int32)), (.int p1)]) _
              by_cases hc13 : p1 = (6 : Int32)
              · skip
                refine go1 (fun _ => XS.icmpNo X0.here hx rfl (hb hby d1_56) rfl (teq hc13).2) ?_
                show Go p.tables e below s₁ (mkF m 59 #[.val (.int p1)] []) _
                obtain ⟨T14, X14, e14, st14⟩ := getS2 X0 hx hZ hown (host := "") (Or.inl (hw _ (List.mem_of_getElem? (i := 37) rfl))) Via.refl e0 (S_LONG.ext O0.2) (g := (mkF m 59 #[.val (.int p1)] [])) rfl (hb hby d1_59)
                refine go1 st14 ?_
                show Go p.tables e below T14 (mkF m 62 #[.val (.int p1)] [(.ref a_LONG)]) _
                refine goR X14 (BodyLoose.notSynchronized Bd) (v := (some (.ref a_LONG))) (fun h => by rw [Bd.returns] at h; cases h) (Q1 Z p1 a_BOOLEAN a_OCTET a_WCHAR a_UNSIGNED_LONG a_DOUBLE a_SHORT a_LONG_LONG a_CHAR a_FLOAT a_UNSIGNED_LONG_LONG a_LONG a_UNSIGNED_SHORT h0 n0) (fun fs hr => retOut X14 hx (t := (.object "com/example/stubwright/stubwright/idl/PrimitiveType")) (w := (.ref a_LONG)) Bd.returns rfl (Or.inr (Or.inr (Or.inr (Or.inr ⟨rfl, rfl, rfl⟩)))) (hb hby d1_62) hr) (by decide) (by decide) ?_
                show Q1 Z p1 a_BOOLEAN a_OCTET a_WCHAR a_UNSIGNED_LONG a_DOUBLE a_SHORT a_LONG_LONG a_CHAR a_FLOAT a_UNSIGNED_LONG_LONG a_LONG a_UNSIGNED_SHORT h0 n0 _ T14.heap _
                rw [e14]
                exact ⟨(by rw [own_1, if_neg hc1, if_neg hc3, if_neg hc5, if_neg hc7, if_neg hc9, if_neg hc11, if_pos hc13]), N0, rfl⟩
              · skip
                refine go1 (fun _ => XS.icmpYes X0.here hx rfl (pc0 := 56) (pc' := 63) rfl (hb hby d1_56) rfl (feq hc13).2 (by decide) (by decide)) ?_
                show Go p.tables e below s₁ (mkF m 63 #[.val (.int p1)] []) _
                refine go1 (fun _ => XS.iloadN X0.here hx rfl (hb hby d1_63) rfl) ?_
                show Go p.tables e below s₁ (mkF m 64 #[.val (.int p1)] [(.int p1)]) _
                refine go1 (fun _ => XS.bipush X0.here hx rfl (hb hby d1_64)) ?_
                show Go p.tables e below s₁ (mkF m 66 #[.val (.int p1)] [(.int (7 : Int32)), (.int p1)]) _
                by_cases hc15 : p1 = (7 : Int32)
                · skip
                  refine go1 (fun _ => XS.icmpNo X0.here hx rfl (hb hby d1_66) rfl (teq hc15).2) ?_
                  show Go p.tables e below s₁ (mkF m 69 #[.val (.int p1)] []) _
                  obtain ⟨T16, X16, e16, st16⟩ := getS2 X0 hx hZ hown (host := "") (Or.inl (hw _ (List.mem_of_getElem? (i := 23) rfl))) Via.refl e0 (S_UNSIGNED_LONG.ext O0.2) (g := (mkF m 69 #[.val (.int p1)] [])) rfl (hb hby d1_69)
                  refine go1 st16 ?_
                  show Go p.tables e below T16 (mkF m 72 #[.val (.int p1)] [(.ref a_UNSIGNED_LONG)]) _
                  refine goR X16 (BodyLoose.notSynchronized Bd) (v := (some (.ref a_UNSIGNED_LONG))) (fun h => by rw [Bd.returns] at h; cases h) (Q1 Z p1 a_BOOLEAN a_OCTET a_WCHAR a_UNSIGNED_LONG a_DOUBLE a_SHORT a_LONG_LONG a_CHAR a_FLOAT a_UNSIGNED_LONG_LONG a_LONG a_UNSIGNED_SHORT h0 n0) (fun fs hr => retOut X16 hx (t := (.object "com/example/stubwright/stubwright/idl/PrimitiveType")) (w := (.ref a_UNSIGNED_LONG)) Bd.returns rfl (Or.inr (Or.inr (Or.inr (Or.inr ⟨rfl, rfl, rfl⟩)))) (hb hby d1_72) hr) (by decide) (by decide) ?_
                  show Q1 Z p1 a_BOOLEAN a_OCTET a_WCHAR a_UNSIGNED_LONG a_DOUBLE a_SHORT a_LONG_LONG a_CHAR a_FLOAT a_UNSIGNED_LONG_LONG a_LONG a_UNSIGNED_SHORT h0 n0 _ T16.heap _
                  rw [e16]
                  exact ⟨(by rw [own_1, if_neg hc1, if_neg hc3, if_neg hc5, if_neg hc7, if_neg hc9, if_neg hc11, if_neg hc13, if_pos hc15]), N0, rfl⟩
                · skip
                  refine go1 (fun _ => XS.icmpYes X0.here hx rfl (pc0 := 66) (pc' := 73) rfl (hb hby d1_66) rfl (feq hc15).2 (by decide) (by decide)) ?_
                  show Go p.tables e below s₁ (mkF m 73 #[.val (.int p1)] []) _
                  refine go1 (fun _ => XS.iloadN X0.here hx rfl (hb hby d1_73) rfl) ?_
                  show Go p.tables e below s₁ (mkF m 74 #[.val (.int p1)] [(.int p1)]) _
                  refine go1 (fun _ => XS.bipush X0.here hx rfl (hb hby d1_74)) ?_
                  show Go p.tables e below s₁ (mkF m 76 #[.val (.int p1)] [(.int (8 : Int32)), (.int p1)]) _
                  by_cases hc17 : p1 = (8 : Int32)
                  · skip
                    refine go1 (fun _ => XS.icmpNo X0.here hx rfl (hb hby d1_76) rfl (teq hc17).2) ?_
                    show Go p.tables e below s₁ (mkF m 79 #[.val (.int p1)] []) _
                    obtain ⟨T18, X18, e18, st18⟩ := getS2 X0 hx hZ hown (host := "") (Or.inl (hw _ (List.mem_of_getElem? (i := 29) rfl))) Via.refl e0 (S_LONG_LONG.ext O0.2) (g := (mkF m 79 #[.val (.int p1)] [])) rfl (hb hby d1_79)
                    refine go1 st18 ?_
                    show Go p.tables e below T18 (mkF m 82 #[.val (.int p1)] [(.ref a_LONG_LONG)]) _
                    refine goR X18 (BodyLoose.notSynchronized Bd) (v := (some (.ref a_LONG_LONG))) (fun h => by rw [Bd.returns] at h; cases h) (Q1 Z p1 a_BOOLEAN a_OCTET a_WCHAR a_UNSIGNED_LONG a_DOUBLE a_SHORT a_LONG_LONG a_CHAR a_FLOAT a_UNSIGNED_LONG_LONG a_LONG a_UNSIGNED_SHORT h0 n0) (fun fs hr => retOut X18 hx (t := (.object "com/example/stubwright/stubwright/idl/PrimitiveType")) (w := (.ref a_LONG_LONG)) Bd.returns rfl (Or.inr (Or.inr (Or.inr (Or.inr ⟨rfl, rfl, rfl⟩)))) (hb hby d1_82) hr) (by decide) (by decide) ?_
                    show Q1 Z p1 a_BOOLEAN a_OCTET a_WCHAR a_UNSIGNED_LONG a_DOUBLE a_SHORT a_LONG_LONG a_CHAR a_FLOAT a_UNSIGNED_LONG_LONG a_LONG a_UNSIGNED_SHORT h0 n0 _ T18.heap _
                    rw [e18]
                    exact ⟨(by rw [own_1, if_neg hc1, if_neg hc3, if_neg hc5, if_neg hc7, if_neg hc9, if_neg hc11, if_neg hc13, if_neg hc15, if_pos hc17]), N0, rfl⟩
                  · skip
                    refine go1 (fun _ => XS.icmpYes X0.here hx rfl (pc0 := 76) (pc' := 83) rfl (hb hby d1_76) rfl (feq hc17).2 (by decide) (by decide)) ?_
                    show Go p.tables e below s₁ (mkF m 83 #[.val (.int p1)] []) _
                    refine go1 (fun _ => XS.iloadN X0.here hx rfl (hb hby d1_83) rfl) ?_
                    show Go p.tables e below s₁ (mkF m 84 #[.val (.int p1)] [(.int p1)]) _
                    refine go1 (fun _ => XS.bipush X0.here hx rfl (hb hby d1_84)) ?_
                    show Go p.tables e below s₁ (mkF m 86 #[.val (.int p1)] [(.int (9 : Int32)), (.int p1)]) _
                    by_cases hc19 : p1 = (9 : Int32)
                    · skip
                      refine go1 (fun _ => XS.icmpNo X0.here hx rfl (hb hby d1_86) rfl (teq hc19).2) ?_
                      show Go p.tables e below s₁ (mkF m 89 #[.val (.int p1)] []) _
                      obtain ⟨T20, X20, e20, st20⟩ := getS2 X0 hx hZ hown (host := "") (Or.inl (hw _ (List.mem_of_getElem? (i := 35) rfl))) Via.refl e0 (S_UNSIGNED_LONG_LONG.ext O0.2) (g := (mkF m 89 #[.val (.int p1)] [])) rfl (hb hby d1_89)
                      refine go1 st20 ?_
                      show Go p.tables e below T20 (mkF m 92 #[.val (.int p1)] [(.ref a_UNSIGNED_LONG_LONG)]) _
                      refine goR X20 (BodyLoose.notSynchronized Bd) (v := (some (.ref a_UNSIGNED_LONG_LONG))) (fun h => by rw [Bd.returns] at h; cases h) (Q1 Z p1 a_BOOLEAN a_OCTET a_WCHAR a_UNSIGNED_LONG a_DOUBLE a_SHORT a_LONG_LONG a_CHAR a_FLOAT a_UNSIGNED_LONG_LONG a_LONG a_UNSIGNED_SHORT h0 n0) (fun fs hr => retOut X20 hx (t := (.object "com/example/stubwright/stubwright/idl/PrimitiveType")) (w := (.ref a_UNSIGNED_LONG_LONG)) Bd.returns rfl (Or.inr (Or.inr (Or.inr (Or.inr ⟨rfl, rfl, rfl⟩)))) (hb hby d1_92) hr) (by decide) (by decide) ?_
                      show Q1 Z p1 a_BOOLEAN a_OCTET a_WCHAR a_UNSIGNED_LONG a_DOUBLE a_SHORT a_LONG_LONG a_CHAR a_FLOAT a_UNSIGNED_LONG_LONG a_LONG a_UNSIGNED_SHORT h0 n0 _ T20.heap _
                      rw [e20]
                      exact ⟨(by rw [own_1, if_neg hc1, if_neg hc3, if_neg hc5, if_neg hc7, if_neg hc9, if_neg hc11, if_neg hc13, if_neg hc15, if_neg hc17, if_pos hc19]), N0, rfl⟩
                    · skip
                      refine go1 (fun _ => XS.icmpYes X0.here hx rfl (pc0 := 86) (pc' := 93) rfl (hb hby d1_86) rfl (feq hc19).2 (by decide) (by decide)) ?_
                      show Go p.tables e below s₁ (mkF m 93 #[.val (.int p1)] []) _
                      refine go1 (fun _ => XS.iloadN X0.here hx rfl (hb hby d1_93) rfl) ?_
                      show Go p.tables e below s₁ (mkF m 94 #[.val (.int p1)] [(.int p1)]) _
                      refine go1 (fun _ => XS.bipush X0.here hx rfl (hb hby d1_94)) ?_
                      show Go p.tables e below s₁ (mkF m 96 #[.val (.int p1)] [(.int (10 : Int32)), (.int p1)]) _
                      by_cases hc21 : p1 = (10 : Int32)
                      · skip
                        refine go1 (fun _ => XS.icmpNo X0.here hx rfl (hb hby d1_96) rfl (teq hc21).2) ?_
                        show Go p.tables e below s₁ (mkF m 99 #[.val (.int p1)] []) _
                        obtain ⟨T22, X22, e22, st22⟩ := getS2 X0 hx hZ hown (host := "") (Or.inl (hw _ (List.mem_of_getElem? (i := 33) rfl))) Via.refl e0 (S_FLOAT.ext O0.2) (g := (mkF m 99 #[.val (.int p1)] [])) rfl (hb hby d1_99)
                        refine go1 st22 ?_
                        show Go p.tables e below T22 (mkF m 102 #[.val (.int p1)] [(.ref a_FLOAT)]) _
                        refine goR X22 (BodyLoose.notSynchronized Bd) (v := (some (.ref a_FLOAT))) (fun h => by rw [Bd.returns] at h; cases h) (Q1 Z p1 a_BOOLEAN a_OCTET a_WCHAR a_UNSIGNED_LONG a_DOUBLE a_SHORT a_LONG_LONG a_CHAR a_FLOAT a_UNSIGNED_LONG_LONG a_LONG a_UNSIGNED_SHORT h0 n0) (fun fs hr => retOut X22 hx (t := (.object "com/example/stubwright/stubwright/idl/PrimitiveType")) (w := (.ref a_FLOAT)) Bd.returns rfl (Or.inr (Or.inr (Or.inr (Or.inr ⟨rfl, rfl, rfl⟩)))) (hb hby d1_102) hr) (by decide) (by decide) ?_
                        show Q1 Z p1 a_BOOLEAN a_OCTET a_WCHAR a_UNSIGNED_LONG a_DOUBLE a_SHORT a_LONG_LONG a_CHAR a_FLOAT a_UNSIGNED_LONG_LONG a_LONG a_UNSIGNED_SHORT h0 n0 _ T22.heap _
                        rw [e22]
                        exact ⟨(by rw [own_1, if_neg hc1, if_neg hc3, if_neg hc5, if_neg hc7, if_neg hc9, if_neg hc11, if_neg hc13, if_neg hc15, if_neg hc17, if_neg hc19, if_pos hc21]), N0, rfl⟩
                      · skip
                        refine go1 (fun _ => XS.icmpYes X0.here hx rfl (pc0 := 96) (pc' := 103) rfl (hb hby d1_96) rfl (feq hc21).2 (by decide) (by decide)) ?_
                        show Go p.tables e below s₁ (mkF m 103 #[.val (.int p1)] []) _
                        obtain ⟨T23, X23, e23, st23⟩ := getS2 X0 hx hZ hown (host := "") (Or.inl (hw _ (List.mem_of_getElem? (i := 25) rfl))) Via.refl e0 (S_DOUBLE.ext O0.2) (g := (mkF m 103 #[.val (.int p1)] [])) rfl (hb hby d1_103)
                        refine go1 st23 ?_
                        show Go p.tables e below T23 (mkF m 106 #[.val (.int p1)] [(.ref a_DOUBLE)]) _
                        refine goR X23 (BodyLoose.notSynchronized Bd) (v := (some (.ref a_DOUBLE))) (fun h => by rw [Bd.returns] at h; cases h) (Q1 Z p1 a_BOOLEAN a_OCTET a_WCHAR a_UNSIGNED_LONG a_DOUBLE a_SHORT a_LONG_LONG a_CHAR a_FLOAT a_UNSIGNED_LONG_LONG a_LONG a_UNSIGNED_SHORT h0 n0) (fun fs hr => retOut X23 hx (t := (.object "com/example/stubwright/stubwright/idl/PrimitiveType")) (w := (.ref a_DOUBLE)) Bd.returns rfl (Or.inr (Or.inr (Or.inr (Or.inr ⟨rfl, rfl, rfl⟩)))) (hb hby d1_106) hr) (by decide) (by decide) ?_
                        show Q1 Z p1 a_BOOLEAN a_OCTET a_WCHAR a_UNSIGNED_LONG a_DOUBLE a_SHORT a_LONG_LONG a_CHAR a_FLOAT a_UNSIGNED_LONG_LONG a_LONG a_UNSIGNED_SHORT h0 n0 _ T23.heap _
                        rw [e23]
                        exact ⟨(by rw [own_1, if_neg hc1, if_neg hc3, if_neg hc5, if_neg hc7, if_neg hc9, if_neg hc11, if_neg hc13, if_neg hc15, if_neg hc17, if_neg hc19, if_neg hc21]), N0, rfl⟩
theorem d2_0 : decode prog_30_method_7_code 0 = .ok (.aload_n 0, 1) := by decide +kernel
theorem d2_1 : decode prog_30_method_7_code 1 = .ok (.getfield 69, 3) := by decide +kernel
theorem d2_4 : decode prog_30_method_7_code 4 = .ok (.ifCond .le 14, 3) := by decide +kernel
theorem d2_7 : decode prog_30_method_7_code 7 = .ok (.aload_n 0, 1) := by decide +kernel
theorem d2_8 : decode prog_30_method_7_code 8 = .ok (.getstatic 13, 3) := by decide +kernel
theorem d2_11 : decode prog_30_method_7_code 11 = .ok (.if_acmp .eq 7, 3) := by decide +kernel
theorem d2_14 : decode prog_30_method_7_code 14 = .ok (.iconst 1, 1) := by decide +kernel
theorem d2_15 : decode prog_30_method_7_code 15 = .ok (.goto 4, 3) := by decide +kernel
theorem d2_18 : decode prog_30_method_7_code 18 = .ok (.iconst 0, 1) := by decide +kernel
theorem d2_19 : decode prog_30_method_7_code 19 = .ok (.ireturn, 1) := by decide +kernel
theorem pn_2 : plainName "com/example/stubwright/stubwright/idl/PrimitiveType" = true := by first | (simp [plainName, overriddenIn]; done) | decide +kernel
theorem ef_2 (m : MethodId) (b1 : Addr) : entryFrame m #[(.ref b1)] 1 = mkF m 0 #[.val (.ref b1)] [] := by first | (simp [entryFrame, mkF, argsToLocals, Value.category]; done) | rfl
def own_2 (b1 : Addr) (f1 : Int32) (a_OCTET : Addr) : Int32 :=
  if (0 : Int32) < f1 then
    if b1 = a_OCTET then
      (0 : Int32)
    else
      (1 : Int32)
  else
    (0 : Int32)
def Q2 (Z : State) (b1 : Addr) (f1 : Int32) (a_OCTET : Addr) (h0 : Heap) (n0 : Nat) (v : Option Value) (h : Heap) (L : List Loc) : Prop := v = some (.int (own_2 b1 f1 a_OCTET)) ∧ Fr n0 L ∧ h = h0
set_option maxRecDepth 65536 in
set_option maxHeartbeats 40000000 in
theorem rm2 (l : Launch) (Z : State) (a0 : Array Value) (hw : ∀ d ∈ tables_1, d.before a0 Z = true) (ws : List Jvm.Cond) (b1 : Addr) (f1 : Int32) (a_OCTET : Addr) (h0 : Heap) (n0 : Nat) (Z0 : n0 ≤ h0.size) (O0 : Old Z n0 h0) (F_bits_b1 : Fld Z h0 b1 "com/example/stubwright/stubwright/idl/PrimitiveType" "bits" "I" (.int f1)) (S_OCTET : Sta Z Z.heap "com/example/stubwright/stubwright/idl/PrimitiveType" "OCTET" "Lcom/example/stubwright/stubwright/idl/PrimitiveType;" (.ref a_OCTET)) :
    MetFree l (⟨"com/example/stubwright/stubwright/idl/PrimitiveType", "isInteger", "()Z"⟩ : MethodName) (head1 (Jvm.Cond.code (⟨"com/example/stubwright/stubwright/idl/PrimitiveType", "isInteger", "()Z"⟩ : MethodName) prog_30_method_7_code 1 (some .boolean) :: ws) ({ frames := 0, cells := 0, slots := 0, locals := 0 } : Room)) (fun a U => a = #[(.ref b1)] ∧ Z.Warmed39 U.vm ∧ U.heap = h0) (fun _ _ _ _ _ => True) (fun _ U o U' => ∃ v L, o = .returned v ∧ Q2 Z b1 f1 a_OCTET h0 n0 v U'.heap L ∧ FrameEnd U o U' L ({ frames := 0, cells := 0, slots := 0, locals := 0 } : Room).cells ({ frames := 0, cells := 0, slots := 0, locals := 0 } : Room).slots) := by
  refine MetFree.of_bodySF (plainFor_of_name pn_2) hisR ?_
  intro p e s m args below meth c s₁ Bd hml0 hP hK
  obtain ⟨rfl, hZ, hh⟩ := hP
  have hx := Bd.exec
  have hby := Bd.bytes
  have hml : c.maxLocals = 1 := hml0
  have hown : s.vm.findClass "com/example/stubwright/stubwright/idl/PrimitiveType" = some m.cls := findClass_of_methodNamed Bd.named
  have hnm := (name_of_methodNamed Bd.named Bd.method).1
  have X0 : Stand p l e ({ frames := 0, cells := 0, slots := 0, locals := 0 } : Room) s m #[(.ref b1)] below meth c s₁ [] 0 0 := Stand.of_body Bd
  have e0 : s₁.heap = h0 := by rw [← hh, Bd.state]; rfl
  have N0 := Fr.nil n0
  refine goB (ef_2 m b1) ?_
  show Go p.tables e below s₁ (mkF m 0 #[.val (.ref b1)] []) _
  refine go1 (fun _ => XS.aloadN X0.here hx rfl (hb hby d2_0) rfl rfl) ?_
  show Go p.tables e below s₁ (mkF m 1 #[.val (.ref b1)] [(.ref b1)]) _
  obtain ⟨T1, X1, e1, st1⟩ := getF X0 hx hZ hown (host := "") (Or.inl (hw _ (List.mem_of_getElem? (i := 13) rfl))) Via.refl e0 F_bits_b1 (g := (mkF m 1 #[.val (.ref b1)] [(.ref b1)])) rfl rfl (hb hby d2_1)
  refine go1 st1 ?_
  show Go p.tables e below T1 (mkF m 4 #[.val (.ref b1)] [(.int f1)]) _
  by_cases hc2 : (0 : Int32) < f1
  · skip
    refine go1 (fun _ => XS.ifNo X1.here hx rfl (hb hby d2_4) rfl ((if0 _ _).trans (tlt hc2).2.2.2)) ?_
    show Go p.tables e below T1 (mkF m 7 #[.val (.ref b1)] []) _
    refine go1 (fun _ => XS.aloadN X1.here hx rfl (hb hby d2_7) rfl rfl) ?_
    show Go p.tables e below T1 (mkF m 8 #[.val (.ref b1)] [(.ref b1)]) _
    obtain ⟨T3, X3, e3, st3⟩ := getS2 X1 hx hZ hown (host := "") (Or.inl (hw _ (List.mem_of_getElem? (i := 20) rfl))) Via.refl e1 (S_OCTET.ext O0.2) (g := (mkF m 8 #[.val (.ref b1)] [(.ref b1)])) rfl (hb hby d2_8)
    refine go1 st3 ?_
    show Go p.tables e below T3 (mkF m 11 #[.val (.ref b1)] [(.ref a_OCTET), (.ref b1)]) _
    by_cases hc4 : b1 = a_OCTET
    · skip
      refine go1 (fun _ => Jvm.RoadKit.acmp (g := (mkF m 11 #[.val (.ref b1)] [(.ref a_OCTET), (.ref b1)])) X3 hx rfl rfl rfl (pc0 := 11) (pc' := 18) (same := true) rfl (hb hby d2_11) rfl (decide_eq_true (congrArg Value.ref hc4)) (by decide) (by decide)) ?_
      show Go p.tables e below T3 (mkF m 18 #[.val (.ref b1)] []) _
      refine go1 (fun _ => XS.iconst X3.here hx rfl (hb hby d2_18)) ?_
      show Go p.tables e below T3 (mkF m 19 #[.val (.ref b1)] [(.int (0 : Int32))]) _
      refine goR X3 (BodyLoose.notSynchronized Bd) (v := (some (.int (0 : Int32)))) (fun h => by rw [Bd.returns] at h; cases h) (Q2 Z b1 f1 a_OCTET h0 n0) (fun fs hr => retN X3 hx (t := .boolean) Bd.returns (by simp) (hb hby d2_19) hr) (by decide) (by decide) ?_
      show Q2 Z b1 f1 a_OCTET h0 n0 _ T3.heap _
      rw [e3]
      exact ⟨(by rw [own_2, if_pos hc2, if_pos hc4]), N0, rfl⟩
    · skip
      refine go1 (fun _ => Jvm.RoadKit.acmp (g := (mkF m 11 #[.val (.ref b1)] [(.ref a_OCTET), (.ref b1)])) X3 hx rfl rfl rfl (pc0 := 11) (pc' := 14) (same := false) rfl (hb hby d2_11) rfl (decide_eq_false fun q => hc4 (Value.ref.inj q)) (by decide) (by decide)) ?_
      show Go p.tables e below T3 (mkF m 14 #[.val (.ref b1)] []) _
      refine go1 (fun _ => XS.iconst X3.here hx rfl (hb hby d2_14)) ?_
      show Go p.tables e below T3 (mkF m 15 #[.val (.ref b1)] [(.int (1 : Int32))]) _
      refine go1 (fun _ => XS.goto X3.here hx rfl (pc0 := 15) (pc' := 19) rfl (hb hby d2_15) (by decide) (by decide)) ?_
      show Go p.tables e below T3 (mkF m 19 #[.val (.ref b1)] [(.int (1 : Int32))]) _
      refine goR X3 (BodyLoose.notSynchronized Bd) (v := (some (.int (1 : Int32)))) (fun h => by rw [Bd.returns] at h; cases h) (Q2 Z b1 f1 a_OCTET h0 n0) (fun fs hr => retN X3 hx (t := .boolean) Bd.returns (by simp) (hb hby d2_19) hr) (by decide) (by decide) ?_
      show Q2 Z b1 f1 a_OCTET h0 n0 _ T3.heap _
      rw [e3]
      exact ⟨(by rw [own_2, if_pos hc2, if_neg hc4]), N0, rfl⟩
  · skip
    refine go1 (fun _ => XS.ifYes X1.here hx rfl (pc0 := 4) (pc' := 18) rfl (hb hby d2_4) rfl ((if0 _ _).trans (flt hc2).2.2.2) (by decide) (by decide)) ?_
    show Go p.tables e below T1 (mkF m 18 #[.val (.ref b1)] []) _
    refine go1 (fun _ => XS.iconst X1.here hx rfl (hb hby d2_18)) ?_
    show Go p.tables e below T1 (mkF m 19 #[.val (.ref b1)] [(.int (0 : Int32))]) _
    refine goR X1 (BodyLoose.notSynchronized Bd) (v := (some (.int (0 : Int32)))) (fun h => by rw [Bd.returns] at h; cases h) (Q2 Z b1 f1 a_OCTET h0 n0) (fun fs hr => retN X1 hx (t := .boolean) Bd.returns (by simp) (hb hby d2_19) hr) (by decide) (by decide) ?_
    show Q2 Z b1 f1 a_OCTET h0 n0 _ T1.heap _
    rw [e1]
    exact ⟨(by rw [own_2, if_neg hc2]), N0, rfl⟩
theorem d3_0 : decode method_3_code 0 = .ok (.iload_n 0, 1) := by decide +kernel
theorem d3_1 : decode method_3_code 1 = .ok (.iconst 4, 1) := by decide +kernel
theorem d3_2 : decode method_3_code 2 = .ok (.if_icmp .lt 13, 3) := by decide +kernel
theorem d3_5 : decode method_3_code 5 = .ok (.iload_n 0, 1) := by decide +kernel
theorem d3_6 : decode method_3_code 6 = .ok (.bipush 9, 2) := by decide +kernel
theorem d3_8 : decode method_3_code 8 = .ok (.if_icmp .gt 7, 3) := by decide +kernel
theorem d3_11 : decode method_3_code 11 = .ok (.iconst 1, 1) := by decide +kernel
theorem d3_12 : decode method_3_code 12 = .ok (.goto 4, 3) := by decide +kernel
theorem d3_15 : decode method_3_code 15 = .ok (.iconst 0, 1) := by decide +kernel
theorem d3_16 : decode method_3_code 16 = .ok (.ireturn, 1) := by decide +kernel
theorem pn_3 : plainName "com/example/stubwright/stubwright/idl/PrimitiveTypeIsIntegerPinLaw" = true := by first | (simp [plainName, overriddenIn]; done) | decide +kernel
theorem ef_3 (m : MethodId) (p1 : Int32) : entryFrame m #[(.int p1)] 1 = mkF m 0 #[.val (.int p1)] [] := by first | (simp [entryFrame, mkF, argsToLocals, Value.category]; done) | rfl
def own_3 (p1 : Int32) : Int32 :=
  if p1 < (4 : Int32) then
    (0 : Int32)
  else
    if (9 : Int32) < p1 then
      (0 : Int32)
    else
      (1 : Int32)
def Q3 (Z : State) (p1 : Int32) (h0 : Heap) (n0 : Nat) (v : Option Value) (h : Heap) (L : List Loc) : Prop := v = some (.int (own_3 p1)) ∧ Fr n0 L ∧ h = h0
set_option maxRecDepth 65536 in
set_option maxHeartbeats 40000000 in
theorem rm3 (l : Launch) (Z : State) (a0 : Array Value) (hw : ∀ d ∈ tables_1, d.before a0 Z = true) (ws : List Jvm.Cond) (p1 : Int32) (h0 : Heap) (n0 : Nat) (Z0 : n0 ≤ h0.size) :
    MetFree l (⟨"com/example/stubwright/stubwright/idl/PrimitiveTypeIsIntegerPinLaw", "expected", "(I)Z"⟩ : MethodName) (head1 (Jvm.Cond.code (⟨"com/example/stubwright/stubwright/idl/PrimitiveTypeIsIntegerPinLaw", "expected", "(I)Z"⟩ : MethodName) method_3_code 1 (some .boolean) :: ws) ({ frames := 0, cells := 0, slots := 0, locals := 0 } : Room)) (fun a U => a = #[(.int p1)] ∧ Z.Warmed39 U.vm ∧ U.heap = h0) (fun _ _ _ _ _ => True) (fun _ U o U' => ∃ v L, o = .returned v ∧ Q3 Z p1 h0 n0 v U'.heap L ∧ FrameEnd U o U' L ({ frames := 0, cells := 0, slots := 0, locals := 0 } : Room).cells ({ frames := 0, cells := 0, slots := 0, locals := 0 } : Room).slots) := by
  refine MetFree.of_bodySF (plainFor_of_name pn_3) hisR ?_
  intro p e s m args below meth c s₁ Bd hml0 hP hK
  obtain ⟨rfl, hZ, hh⟩ := hP
  have hx := Bd.exec
  have hby := Bd.bytes
  have hml : c.maxLocals = 1 := hml0
  have hown : s.vm.findClass "com/example/stubwright/stubwright/idl/PrimitiveTypeIsIntegerPinLaw" = some m.cls := findClass_of_methodNamed Bd.named
  have hnm := (name_of_methodNamed Bd.named Bd.method).1
  have X0 : Stand p l e ({ frames := 0, cells := 0, slots := 0, locals := 0 } : Room) s m #[(.int p1)] below meth c s₁ [] 0 0 := Stand.of_body Bd
  have e0 : s₁.heap = h0 := by rw [← hh, Bd.state]; rfl
  have N0 := Fr.nil n0
  refine goB (ef_3 m p1) ?_
  show Go p.tables e below s₁ (mkF m 0 #[.val (.int p1)] []) _
  refine go1 (fun _ => XS.iloadN X0.here hx rfl (hb hby d3_0) rfl) ?_
  show Go p.tables e below s₁ (mkF m 1 #[.val (.int p1)] [(.int p1)]) _
  refine go1 (fun _ => XS.iconst X0.here hx rfl (hb hby d3_1)) ?_
  show Go p.tables e below s₁ (mkF m 2 #[.val (.int p1)] [(.int (4 : Int32)), (.int p1)]) _
  by_cases hc1 : p1 < (4 : Int32)
  · skip
    refine go1 (fun _ => XS.icmpYes X0.here hx rfl (pc0 := 2) (pc' := 15) rfl (hb hby d3_2) rfl (tlt hc1).1 (by decide) (by decide)) ?_
    show Go p.tables e below s₁ (mkF m 15 #[.val (.int p1)] []) _
    refine go1 (fun _ => XS.iconst X0.here hx rfl (hb hby d3_15)) ?_
    show Go p.tables e below s₁ (mkF m 16 #[.val (.int p1)] [(.int (0 : Int32))]) _
    refine goR X0 (BodyLoose.notSynchronized Bd) (v := (some (.int (0 : Int32)))) (fun h => by rw [Bd.returns] at h; cases h) (Q3 Z p1 h0 n0) (fun fs hr => retN X0 hx (t := .boolean) Bd.returns (by simp) (hb hby d3_16) hr) (by decide) (by decide) ?_
    show Q3 Z p1 h0 n0 _ s₁.heap _
    rw [e0]
    exact ⟨(by rw [own_3, if_pos hc1]), N0, rfl⟩
  · skip
    refine go1 (fun _ => XS.icmpNo X0.here hx rfl (hb hby d3_2) rfl (flt hc1).1) ?_
    show Go p.tables e below s₁ (mkF m 5 #[.val (.int p1)] []) _
    refine go1 (fun _ => XS.iloadN X0.here hx rfl (hb hby d3_5) rfl) ?_
    show Go p.tables e below s₁ (mkF m 6 #[.val (.int p1)] [(.int p1)]) _
    refine go1 (fun _ => XS.bipush X0.here hx rfl (hb hby d3_6)) ?_
    show Go p.tables e below s₁ (mkF m 8 #[.val (.int p1)] [(.int (9 : Int32)), (.int p1)]) _
    by_cases hc2 : (9 : Int32) < p1
    · skip
      refine go1 (fun _ => XS.icmpYes X0.here hx rfl (pc0 := 8) (pc' := 15) rfl (hb hby d3_8) rfl (tlt hc2).2.2.1 (by decide) (by decide)) ?_
      show Go p.tables e below s₁ (mkF m 15 #[.val (.int p1)] []) _
      refine go1 (fun _ => XS.iconst X0.here hx rfl (hb hby d3_15)) ?_
      show Go p.tables e below s₁ (mkF m 16 #[.val (.int p1)] [(.int (0 : Int32))]) _
      refine goR X0 (BodyLoose.notSynchronized Bd) (v := (some (.int (0 : Int32)))) (fun h => by rw [Bd.returns] at h; cases h) (Q3 Z p1 h0 n0) (fun fs hr => retN X0 hx (t := .boolean) Bd.returns (by simp) (hb hby d3_16) hr) (by decide) (by decide) ?_
      show Q3 Z p1 h0 n0 _ s₁.heap _
      rw [e0]
      exact ⟨(by rw [own_3, if_neg hc1, if_pos hc2]), N0, rfl⟩
    · skip
      refine go1 (fun _ => XS.icmpNo X0.here hx rfl (hb hby d3_8) rfl (flt hc2).2.2.1) ?_
      show Go p.tables e below s₁ (mkF m 11 #[.val (.int p1)] []) _
      refine go1 (fun _ => XS.iconst X0.here hx rfl (hb hby d3_11)) ?_
      show Go p.tables e below s₁ (mkF m 12 #[.val (.int p1)] [(.int (1 : Int32))]) _
      refine go1 (fun _ => XS.goto X0.here hx rfl (pc0 := 12) (pc' := 16) rfl (hb hby d3_12) (by decide) (by decide)) ?_
      show Go p.tables e below s₁ (mkF m 16 #[.val (.int p1)] [(.int (1 : Int32))]) _
      refine goR X0 (BodyLoose.notSynchronized Bd) (v := (some (.int (1 : Int32)))) (fun h => by rw [Bd.returns] at h; cases h) (Q3 Z p1 h0 n0) (fun fs hr => retN X0 hx (t := .boolean) Bd.returns (by simp) (hb hby d3_16) hr) (by decide) (by decide) ?_
      show Q3 Z p1 h0 n0 _ s₁.heap _
      rw [e0]
      exact ⟨(by rw [own_3, if_neg hc1, if_neg hc2]), N0, rfl⟩
theorem own_cls (Z : State) (k : Int32) (a_BOOLEAN a_OCTET a_WCHAR a_UNSIGNED_LONG a_DOUBLE a_SHORT a_LONG_LONG a_CHAR a_FLOAT a_UNSIGNED_LONG_LONG a_LONG a_UNSIGNED_SHORT : Addr) (e0 : Exa Z Z.heap a_BOOLEAN "com/example/stubwright/stubwright/idl/PrimitiveType") (e1 : Exa Z Z.heap a_OCTET "com/example/stubwright/stubwright/idl/PrimitiveType") (e2 : Exa Z Z.heap a_WCHAR "com/example/stubwright/stubwright/idl/PrimitiveType") (e3 : Exa Z Z.heap a_UNSIGNED_LONG "com/example/stubwright/stubwright/idl/PrimitiveType") (e4 : Exa Z Z.heap a_DOUBLE "com/example/stubwright/stubwright/idl/PrimitiveType") (e5 : Exa Z Z.heap a_SHORT "com/example/stubwright/stubwright/idl/PrimitiveType") (e6 : Exa Z Z.heap a_LONG_LONG "com/example/stubwright/stubwright/idl/PrimitiveType") (e7 : Exa Z Z.heap a_CHAR "com/example/stubwright/stubwright/idl/PrimitiveType") (e8 : Exa Z Z.heap a_FLOAT "com/example/stubwright/stubwright/idl/PrimitiveType") (e9 : Exa Z Z.heap a_UNSIGNED_LONG_LONG "com/example/stubwright/stubwright/idl/PrimitiveType") (e10 : Exa Z Z.heap a_LONG "com/example/stubwright/stubwright/idl/PrimitiveType") (e11 : Exa Z Z.heap a_UNSIGNED_SHORT "com/example/stubwright/stubwright/idl/PrimitiveType") : Exa Z Z.heap (own_1 k a_BOOLEAN a_OCTET a_WCHAR a_UNSIGNED_LONG a_DOUBLE a_SHORT a_LONG_LONG a_CHAR a_FLOAT a_UNSIGNED_LONG_LONG a_LONG a_UNSIGNED_SHORT) "com/example/stubwright/stubwright/idl/PrimitiveType" := by
  by_cases h0 : k = (0 : Int32)
  · rw [own_1, if_pos h0]; assumption
  by_cases h1 : k = (1 : Int32)
  · rw [own_1, if_neg h0, if_pos h1]; assumption
  by_cases h2 : k = (2 : Int32)
  · rw [own_1, if_neg h0, if_neg h1, if_pos h2]; assumption
  by_cases h3 : k = (3 : Int32)
  · rw [own_1, if_neg h0, if_neg h1, if_neg h2, if_pos h3]; assumption
  by_cases h4 : k = (4 : Int32)
  · rw [own_1, if_neg h0, if_neg h1, if_neg h2, if_neg h3, if_pos h4]; assumption
  by_cases h5 : k = (5 : Int32)
  · rw [own_1, if_neg h0, if_neg h1, if_neg h2, if_neg h3, if_neg h4, if_pos h5]; assumption
  by_cases h6 : k = (6 : Int32)
  · rw [own_1, if_neg h0, if_neg h1, if_neg h2, if_neg h3, if_neg h4, if_neg h5, if_pos h6]; assumption
  by_cases h7 : k = (7 : Int32)
  · rw [own_1, if_neg h0, if_neg h1, if_neg h2, if_neg h3, if_neg h4, if_neg h5, if_neg h6, if_pos h7]; assumption
  by_cases h8 : k = (8 : Int32)
  · rw [own_1, if_neg h0, if_neg h1, if_neg h2, if_neg h3, if_neg h4, if_neg h5, if_neg h6, if_neg h7, if_pos h8]; assumption
  by_cases h9 : k = (9 : Int32)
  · rw [own_1, if_neg h0, if_neg h1, if_neg h2, if_neg h3, if_neg h4, if_neg h5, if_neg h6, if_neg h7, if_neg h8, if_pos h9]; assumption
  by_cases h10 : k = (10 : Int32)
  · rw [own_1, if_neg h0, if_neg h1, if_neg h2, if_neg h3, if_neg h4, if_neg h5, if_neg h6, if_neg h7, if_neg h8, if_neg h9, if_pos h10]; assumption
  rw [own_1, if_neg h0, if_neg h1, if_neg h2, if_neg h3, if_neg h4, if_neg h5, if_neg h6, if_neg h7, if_neg h8, if_neg h9, if_neg h10]; assumption
def own_bits (k : Int32) : Int32 := if k = (0 : Int32) then (0 : Int32) else if k = (1 : Int32) then (0 : Int32) else if k = (2 : Int32) then (0 : Int32) else if k = (3 : Int32) then (8 : Int32) else if k = (4 : Int32) then (16 : Int32) else if k = (5 : Int32) then (16 : Int32) else if k = (6 : Int32) then (32 : Int32) else if k = (7 : Int32) then (32 : Int32) else if k = (8 : Int32) then (64 : Int32) else if k = (9 : Int32) then (64 : Int32) else if k = (10 : Int32) then (0 : Int32) else (0 : Int32)
theorem own_fld (Z : State) (k : Int32) (a_BOOLEAN a_OCTET a_WCHAR a_UNSIGNED_LONG a_DOUBLE a_SHORT a_LONG_LONG a_CHAR a_FLOAT a_UNSIGNED_LONG_LONG a_LONG a_UNSIGNED_SHORT : Addr) (e0 : Fld Z Z.heap a_BOOLEAN "com/example/stubwright/stubwright/idl/PrimitiveType" "bits" "I" (.int (0 : Int32))) (e1 : Fld Z Z.heap a_OCTET "com/example/stubwright/stubwright/idl/PrimitiveType" "bits" "I" (.int (8 : Int32))) (e2 : Fld Z Z.heap a_WCHAR "com/example/stubwright/stubwright/idl/PrimitiveType" "bits" "I" (.int (0 : Int32))) (e3 : Fld Z Z.heap a_UNSIGNED_LONG "com/example/stubwright/stubwright/idl/PrimitiveType" "bits" "I" (.int (32 : Int32))) (e4 : Fld Z Z.heap a_DOUBLE "com/example/stubwright/stubwright/idl/PrimitiveType" "bits" "I" (.int (0 : Int32))) (e5 : Fld Z Z.heap a_SHORT "com/example/stubwright/stubwright/idl/PrimitiveType" "bits" "I" (.int (16 : Int32))) (e6 : Fld Z Z.heap a_LONG_LONG "com/example/stubwright/stubwright/idl/PrimitiveType" "bits" "I" (.int (64 : Int32))) (e7 : Fld Z Z.heap a_CHAR "com/example/stubwright/stubwright/idl/PrimitiveType" "bits" "I" (.int (0 : Int32))) (e8 : Fld Z Z.heap a_FLOAT "com/example/stubwright/stubwright/idl/PrimitiveType" "bits" "I" (.int (0 : Int32))) (e9 : Fld Z Z.heap a_UNSIGNED_LONG_LONG "com/example/stubwright/stubwright/idl/PrimitiveType" "bits" "I" (.int (64 : Int32))) (e10 : Fld Z Z.heap a_LONG "com/example/stubwright/stubwright/idl/PrimitiveType" "bits" "I" (.int (32 : Int32))) (e11 : Fld Z Z.heap a_UNSIGNED_SHORT "com/example/stubwright/stubwright/idl/PrimitiveType" "bits" "I" (.int (16 : Int32))) : Fld Z Z.heap (own_1 k a_BOOLEAN a_OCTET a_WCHAR a_UNSIGNED_LONG a_DOUBLE a_SHORT a_LONG_LONG a_CHAR a_FLOAT a_UNSIGNED_LONG_LONG a_LONG a_UNSIGNED_SHORT) "com/example/stubwright/stubwright/idl/PrimitiveType" "bits" "I" (.int (own_bits k)) := by
  by_cases h0 : k = (0 : Int32)
  · rw [own_1, own_bits, if_pos h0, if_pos h0]; assumption
  by_cases h1 : k = (1 : Int32)
  · rw [own_1, own_bits, if_neg h0, if_pos h1, if_neg h0, if_pos h1]; assumption
  by_cases h2 : k = (2 : Int32)
  · rw [own_1, own_bits, if_neg h0, if_neg h1, if_pos h2, if_neg h0, if_neg h1, if_pos h2]; assumption
  by_cases h3 : k = (3 : Int32)
  · rw [own_1, own_bits, if_neg h0, if_neg h1, if_neg h2, if_pos h3, if_neg h0, if_neg h1, if_neg h2, if_pos h3]; assumption
  by_cases h4 : k = (4 : Int32)
  · rw [own_1, own_bits, if_neg h0, if_neg h1, if_neg h2, if_neg h3, if_pos h4, if_neg h0, if_neg h1, if_neg h2, if_neg h3, if_pos h4]; assumption
  by_cases h5 : k = (5 : Int32)
  · rw [own_1, own_bits, if_neg h0, if_neg h1, if_neg h2, if_neg h3, if_neg h4, if_pos h5, if_neg h0, if_neg h1, if_neg h2, if_neg h3, if_neg h4, if_pos h5]; assumption
  by_cases h6 : k = (6 : Int32)
  · rw [own_1, own_bits, if_neg h0, if_neg h1, if_neg h2, if_neg h3, if_neg h4, if_neg h5, if_pos h6, if_neg h0, if_neg h1, if_neg h2, if_neg h3, if_neg h4, if_neg h5, if_pos h6]; assumption
  by_cases h7 : k = (7 : Int32)
  · rw [own_1, own_bits, if_neg h0, if_neg h1, if_neg h2, if_neg h3, if_neg h4, if_neg h5, if_neg h6, if_pos h7, if_neg h0, if_neg h1, if_neg h2, if_neg h3, if_neg h4, if_neg h5, if_neg h6, if_pos h7]; assumption
  by_cases h8 : k = (8 : Int32)
  · rw [own_1, own_bits, if_neg h0, if_neg h1, if_neg h2, if_neg h3, if_neg h4, if_neg h5, if_neg h6, if_neg h7, if_pos h8, if_neg h0, if_neg h1, if_neg h2, if_neg h3, if_neg h4, if_neg h5, if_neg h6, if_neg h7, if_pos h8]; assumption
  by_cases h9 : k = (9 : Int32)
  · rw [own_1, own_bits, if_neg h0, if_neg h1, if_neg h2, if_neg h3, if_neg h4, if_neg h5, if_neg h6, if_neg h7, if_neg h8, if_pos h9, if_neg h0, if_neg h1, if_neg h2, if_neg h3, if_neg h4, if_neg h5, if_neg h6, if_neg h7, if_neg h8, if_pos h9]; assumption
  by_cases h10 : k = (10 : Int32)
  · rw [own_1, own_bits, if_neg h0, if_neg h1, if_neg h2, if_neg h3, if_neg h4, if_neg h5, if_neg h6, if_neg h7, if_neg h8, if_neg h9, if_pos h10, if_neg h0, if_neg h1, if_neg h2, if_neg h3, if_neg h4, if_neg h5, if_neg h6, if_neg h7, if_neg h8, if_neg h9, if_pos h10]; assumption
  rw [own_1, own_bits, if_neg h0, if_neg h1, if_neg h2, if_neg h3, if_neg h4, if_neg h5, if_neg h6, if_neg h7, if_neg h8, if_neg h9, if_neg h10, if_neg h0, if_neg h1, if_neg h2, if_neg h3, if_neg h4, if_neg h5, if_neg h6, if_neg h7, if_neg h8, if_neg h9, if_neg h10]; assumption
theorem pn_0 : plainName "com/example/stubwright/stubwright/idl/PrimitiveTypeIsIntegerPinLaw" = true := by first | (simp [plainName, overriddenIn]; done) | decide +kernel
theorem pd0_0 : parseMethodDescriptor "(I)Lcom/example/stubwright/stubwright/idl/PrimitiveType;" = some ⟨[.int], some (.object "com/example/stubwright/stubwright/idl/PrimitiveType")⟩ := by decide +kernel
theorem pd0_1 : parseMethodDescriptor "()Z" = some ⟨[], some .boolean⟩ := by decide +kernel
theorem pd0_2 : parseMethodDescriptor "(I)Z" = some ⟨[.int], some .boolean⟩ := by decide +kernel
theorem ef_0 (m : MethodId) (p1 : Int32) : entryFrame m #[(.int p1)] maxLocals = mkF m 0 #[.val (.int p1), .unset, .unset] [] := by first | (simp [entryFrame, mkF, argsToLocals, Value.category, maxLocals]; done) | rfl
def own_0 (p1 : Int32) (a_BOOLEAN : Addr) (a_OCTET : Addr) (a_WCHAR : Addr) (a_UNSIGNED_LONG : Addr) (a_DOUBLE : Addr) (a_SHORT : Addr) (a_LONG_LONG : Addr) (a_CHAR : Addr) (a_FLOAT : Addr) (a_UNSIGNED_LONG_LONG : Addr) (a_LONG : Addr) (a_UNSIGNED_SHORT : Addr) : Int32 :=
  if (own_2 (own_1 ((p1 &&& (2147483647 : Int32)) % (12 : Int32)) a_BOOLEAN a_OCTET a_WCHAR a_UNSIGNED_LONG a_DOUBLE a_SHORT a_LONG_LONG a_CHAR a_FLOAT a_UNSIGNED_LONG_LONG a_LONG a_UNSIGNED_SHORT) (own_bits ((p1 &&& (2147483647 : Int32)) % (12 : Int32))) a_OCTET) = (own_3 ((p1 &&& (2147483647 : Int32)) % (12 : Int32))) then
    (1 : Int32)
  else
    (0 : Int32)
def Q0 (Z : State) (p1 : Int32) (a_BOOLEAN : Addr) (a_OCTET : Addr) (a_WCHAR : Addr) (a_UNSIGNED_LONG : Addr) (a_DOUBLE : Addr) (a_SHORT : Addr) (a_LONG_LONG : Addr) (a_CHAR : Addr) (a_FLOAT : Addr) (a_UNSIGNED_LONG_LONG : Addr) (a_LONG : Addr) (a_UNSIGNED_SHORT : Addr) (h0 : Heap) (n0 : Nat) (v : Option Value) (h : Heap) (L : List Loc) : Prop := v = some (.int (own_0 p1 a_BOOLEAN a_OCTET a_WCHAR a_UNSIGNED_LONG a_DOUBLE a_SHORT a_LONG_LONG a_CHAR a_FLOAT a_UNSIGNED_LONG_LONG a_LONG a_UNSIGNED_SHORT)) ∧ Fr n0 L
set_option maxRecDepth 65536 in
set_option maxHeartbeats 40000000 in
theorem rm0 (l : Launch) (Z : State) (a0 : Array Value) (hw : ∀ d ∈ tables_1, d.before a0 Z = true) (ws : List Jvm.Cond) (p1 : Int32) (a_BOOLEAN : Addr) (a_OCTET : Addr) (a_WCHAR : Addr) (a_UNSIGNED_LONG : Addr) (a_DOUBLE : Addr) (a_SHORT : Addr) (a_LONG_LONG : Addr) (a_CHAR : Addr) (a_FLOAT : Addr) (a_UNSIGNED_LONG_LONG : Addr) (a_LONG : Addr) (a_UNSIGNED_SHORT : Addr) (h0 : Heap) (n0 : Nat) (Z0 : n0 ≤ h0.size) (O0 : Old Z n0 h0) (S_BOOLEAN : Sta Z Z.heap "com/example/stubwright/stubwright/idl/PrimitiveType" "BOOLEAN" "Lcom/example/stubwright/stubwright/idl/PrimitiveType;" (.ref a_BOOLEAN)) (ES_a_BOOLEAN : Exa Z Z.heap a_BOOLEAN "com/example/stubwright/stubwright/idl/PrimitiveType") (S_OCTET : Sta Z Z.heap "com/example/stubwright/stubwright/idl/PrimitiveType" "OCTET" "Lcom/example/stubwright/stubwright/idl/PrimitiveType;" (.ref a_OCTET)) (ES_a_OCTET : Exa Z Z.heap a_OCTET "com/example/stubwright/stubwright/idl/PrimitiveType") (S_WCHAR : Sta Z Z.heap "com/example/stubwright/stubwright/idl/PrimitiveType" "WCHAR" "Lcom/example/stubwright/stubwright/idl/PrimitiveType;" (.ref a_WCHAR)) (ES_a_WCHAR : Exa Z Z.heap a_WCHAR "com/example/stubwright/stubwright/idl/PrimitiveType") (S_UNSIGNED_LONG : Sta Z Z.heap "com/example/stubwright/stubwright/idl/PrimitiveType" "UNSIGNED_LONG" "Lcom/example/stubwright/stubwright/idl/PrimitiveType;" (.ref a_UNSIGNED_LONG)) (ES_a_UNSIGNED_LONG : Exa Z Z.heap a_UNSIGNED_LONG "com/example/stubwright/stubwright/idl/PrimitiveType") (S_DOUBLE : Sta Z Z.heap "com/example/stubwright/stubwright/idl/PrimitiveType" "DOUBLE" "Lcom/example/stubwright/stubwright/idl/PrimitiveType;" (.ref a_DOUBLE)) (ES_a_DOUBLE : Exa Z Z.heap a_DOUBLE "com/example/stubwright/stubwright/idl/PrimitiveType") (S_SHORT : Sta Z Z.heap "com/example/stubwright/stubwright/idl/PrimitiveType" "SHORT" "Lcom/example/stubwright/stubwright/idl/PrimitiveType;" (.ref a_SHORT)) (ES_a_SHORT : Exa Z Z.heap a_SHORT "com/example/stubwright/stubwright/idl/PrimitiveType") (S_LONG_LONG : Sta Z Z.heap "com/example/stubwright/stubwright/idl/PrimitiveType" "LONG_LONG" "Lcom/example/stubwright/stubwright/idl/PrimitiveType;" (.ref a_LONG_LONG)) (ES_a_LONG_LONG : Exa Z Z.heap a_LONG_LONG "com/example/stubwright/stubwright/idl/PrimitiveType") (S_CHAR : Sta Z Z.heap "com/example/stubwright/stubwright/idl/PrimitiveType" "CHAR" "Lcom/example/stubwright/stubwright/idl/PrimitiveType;" (.ref a_CHAR)) (ES_a_CHAR : Exa Z Z.heap a_CHAR "com/example/stubwright/stubwright/idl/PrimitiveType") (S_FLOAT : Sta Z Z.heap "com/example/stubwright/stubwright/idl/PrimitiveType" "FLOAT" "Lcom/example/stubwright/stubwright/idl/PrimitiveType;" (.ref a_FLOAT)) (ES_a_FLOAT : Exa Z Z.heap a_FLOAT "com/example/stubwright/stubwright/idl/PrimitiveType") (S_UNSIGNED_LONG_LONG : Sta Z Z.heap "com/example/stubwright/stubwright/idl/PrimitiveType" "UNSIGNED_LONG_LONG" "Lcom/example/stubwright/stubwright/idl/PrimitiveType;" (.ref a_UNSIGNED_LONG_LONG)) (ES_a_UNSIGNED_LONG_LONG : Exa Z Z.heap a_UNSIGNED_LONG_LONG "com/example/stubwright/stubwright/idl/PrimitiveType") (S_LONG : Sta Z Z.heap "com/example/stubwright/stubwright/idl/PrimitiveType" "LONG" "Lcom/example/stubwright/stubwright/idl/PrimitiveType;" (.ref a_LONG)) (ES_a_LONG : Exa Z Z.heap a_LONG "com/example/stubwright/stubwright/idl/PrimitiveType") (S_UNSIGNED_SHORT : Sta Z Z.heap "com/example/stubwright/stubwright/idl/PrimitiveType" "UNSIGNED_SHORT" "Lcom/example/stubwright/stubwright/idl/PrimitiveType;" (.ref a_UNSIGNED_SHORT)) (ES_a_UNSIGNED_SHORT : Exa Z Z.heap a_UNSIGNED_SHORT "com/example/stubwright/stubwright/idl/PrimitiveType") (FS_bits_a_BOOLEAN : Fld Z Z.heap a_BOOLEAN "com/example/stubwright/stubwright/idl/PrimitiveType" "bits" "I" (.int (0 : Int32))) (FS_bits_a_OCTET : Fld Z Z.heap a_OCTET "com/example/stubwright/stubwright/idl/PrimitiveType" "bits" "I" (.int (8 : Int32))) (FS_bits_a_WCHAR : Fld Z Z.heap a_WCHAR "com/example/stubwright/stubwright/idl/PrimitiveType" "bits" "I" (.int (0 : Int32))) (FS_bits_a_UNSIGNED_LONG : Fld Z Z.heap a_UNSIGNED_LONG "com/example/stubwright/stubwright/idl/PrimitiveType" "bits" "I" (.int (32 : Int32))) (FS_bits_a_DOUBLE : Fld Z Z.heap a_DOUBLE "com/example/stubwright/stubwright/idl/PrimitiveType" "bits" "I" (.int (0 : Int32))) (FS_bits_a_SHORT : Fld Z Z.heap a_SHORT "com/example/stubwright/stubwright/idl/PrimitiveType" "bits" "I" (.int (16 : Int32))) (FS_bits_a_LONG_LONG : Fld Z Z.heap a_LONG_LONG "com/example/stubwright/stubwright/idl/PrimitiveType" "bits" "I" (.int (64 : Int32))) (FS_bits_a_CHAR : Fld Z Z.heap a_CHAR "com/example/stubwright/stubwright/idl/PrimitiveType" "bits" "I" (.int (0 : Int32))) (FS_bits_a_FLOAT : Fld Z Z.heap a_FLOAT "com/example/stubwright/stubwright/idl/PrimitiveType" "bits" "I" (.int (0 : Int32))) (FS_bits_a_UNSIGNED_LONG_LONG : Fld Z Z.heap a_UNSIGNED_LONG_LONG "com/example/stubwright/stubwright/idl/PrimitiveType" "bits" "I" (.int (64 : Int32))) (FS_bits_a_LONG : Fld Z Z.heap a_LONG "com/example/stubwright/stubwright/idl/PrimitiveType" "bits" "I" (.int (32 : Int32))) (FS_bits_a_UNSIGNED_SHORT : Fld Z Z.heap a_UNSIGNED_SHORT "com/example/stubwright/stubwright/idl/PrimitiveType" "bits" "I" (.int (16 : Int32))) :
    MetFree l x (head1 (Jvm.Cond.code x code maxLocals ret :: ws) room_1) (fun a U => a = #[(.int p1)] ∧ Z.Warmed39 U.vm ∧ U.heap = h0) (fun _ _ _ _ _ => True) (fun _ U o U' => ∃ v L, o = .returned v ∧ Q0 Z p1 a_BOOLEAN a_OCTET a_WCHAR a_UNSIGNED_LONG a_DOUBLE a_SHORT a_LONG_LONG a_CHAR a_FLOAT a_UNSIGNED_LONG_LONG a_LONG a_UNSIGNED_SHORT h0 n0 v U'.heap L ∧ FrameEnd U o U' L 0 0) := by
  refine MetFree.of_bodySF (plainFor_of_name pn_0) hisR ?_
  intro p e s m args below meth c s₁ Bd hml0 hP hK
  obtain ⟨rfl, hZ, hh⟩ := hP
  have hx := Bd.exec
  have hby := Bd.bytes
  have hml : c.maxLocals = 3 := hml0
  have hown : s.vm.findClass "com/example/stubwright/stubwright/idl/PrimitiveTypeIsIntegerPinLaw" = some m.cls := findClass_of_methodNamed Bd.named
  have hnm := (name_of_methodNamed Bd.named Bd.method).1
  have X0 : Stand p l e room_1 s m #[(.int p1)] below meth c s₁ [] 0 0 := Stand.of_body Bd
  have e0 : s₁.heap = h0 := by rw [← hh, Bd.state]; rfl
  have N0 := Fr.nil n0
  refine goB (ef_0 m p1) ?_
  show Go p.tables e below s₁ (mkF m 0 #[.val (.int p1), .unset, .unset] []) _
  refine go1 (fun _ => XS.iloadN X0.here hx rfl (hb hby at_0) rfl) ?_
  show Go p.tables e below s₁ (mkF m 1 #[.val (.int p1), .unset, .unset] [(.int p1)]) _
  refine go1 (X0.ldcInt hx hown (mvT hZ (hw _ (List.mem_of_getElem? (i := 0) rfl))) (g := (mkF m 1 #[.val (.int p1), .unset, .unset] [(.int p1)])) rfl (hb hby at_1)) ?_
  show Go p.tables e below s₁ (mkF m 3 #[.val (.int p1), .unset, .unset] [(.int (2147483647 : Int32)), (.int p1)]) _
  refine go1 (fun _ => XS.iand X0.here hx rfl (hb hby at_3) rfl) ?_
  show Go p.tables e below s₁ (mkF m 4 #[.val (.int p1), .unset, .unset] [(.int (p1 &&& (2147483647 : Int32)))]) _
  refine go1 (fun _ => XS.bipush X0.here hx rfl (hb hby at_4)) ?_
  show Go p.tables e below s₁ (mkF m 6 #[.val (.int p1), .unset, .unset] [(.int (12 : Int32)), (.int (p1 &&& (2147483647 : Int32)))]) _
  refine go1 (fun _ => XS.irem X0.here hx rfl (hb hby at_6) rfl (by decide)) ?_
  rw [irem_eq_mod (p1 &&& (2147483647 : Int32)) (12 : Int32)]
  show Go p.tables e below s₁ (mkF m 7 #[.val (.int p1), .unset, .unset] [(.int ((p1 &&& (2147483647 : Int32)) % (12 : Int32)))]) _
  refine go1 (fun _ => XS.istoreN X0.here hx rfl (hb hby at_7) rfl (l' := #[.val (.int p1), .val (.int ((p1 &&& (2147483647 : Int32)) % (12 : Int32))), .unset]) rfl) ?_
  show Go p.tables e below s₁ (mkF m 8 #[.val (.int p1), .val (.int ((p1 &&& (2147483647 : Int32)) % (12 : Int32))), .unset] []) _
  refine go1 (fun _ => XS.iloadN X0.here hx rfl (hb hby at_8) rfl) ?_
  show Go p.tables e below s₁ (mkF m 9 #[.val (.int p1), .val (.int ((p1 &&& (2147483647 : Int32)) % (12 : Int32))), .unset] [(.int ((p1 &&& (2147483647 : Int32)) % (12 : Int32)))]) _
  obtain ⟨_, _, ⟨T1, L1, k1, n1⟩, -, X1, ⟨Lc1, hQ1, l1, y1, z1⟩, st1⟩ := Jvm.LawKit.callS X0 hx (y := (⟨"com/example/stubwright/stubwright/idl/PrimitiveTypeIsIntegerPinLaw", "pick", "(I)Lcom/example/stubwright/stubwright/idl/PrimitiveType;"⟩ : MethodName)) hown (mvT hZ (hw _ (List.mem_of_getElem? (i := 1) rfl))) (mvT hZ (hw _ (List.mem_of_getElem? (i := 2) rfl))) (mvT hZ (hw _ (List.mem_of_getElem? (i := 3) rfl))) (mvT hZ (hw _ (List.mem_of_getElem? (i := 4) rfl))) (by decide) (backOf (W := 0) (rm1 l Z a0 hw [] ((p1 &&& (2147483647 : Int32)) % (12 : Int32)) a_BOOLEAN a_OCTET a_WCHAR a_UNSIGNED_LONG a_DOUBLE a_SHORT a_LONG_LONG a_CHAR a_FLOAT a_UNSIGNED_LONG_LONG a_LONG a_UNSIGNED_SHORT h0 n0 Z0 O0 S_BOOLEAN S_OCTET S_WCHAR S_UNSIGNED_LONG S_DOUBLE S_SHORT S_LONG_LONG S_CHAR S_FLOAT S_UNSIGNED_LONG_LONG S_LONG S_UNSIGNED_SHORT) hZ (hw _ (List.mem_of_getElem? (i := 4) rfl)) (hw _ (List.mem_of_getElem? (i := 3) rfl)) (by decide) (by decide)) (g := (mkF m 9 #[.val (.int p1), .val (.int ((p1 &&& (2147483647 : Int32)) % (12 : Int32))), .unset] [(.int ((p1 &&& (2147483647 : Int32)) % (12 : Int32)))])) rfl (by rw [hml]; rfl) (argsL := [(.int ((p1 &&& (2147483647 : Int32)) % (12 : Int32)))]) (rest := []) (lenOf pd0_0 rfl) rfl (by show 2 * 0 + _ ≤ _; exact Nat.le_of_eq rfl) (hb hby at_9) (fun _ _ => ⟨rfl, e0, (by decide : 0 + 0 ≤ _), (by decide : 0 + 0 ≤ _)⟩)
  dsimp only [Pt.U, Pt.locs, Pt.cells, Pt.slots] at X1 l1 y1 z1 st1 hQ1
  subst l1 y1 z1
  obtain ⟨rfl, N1q, e1⟩ := hQ1
  have N1 := Fr.app N0 N1q
  refine go1 st1 ?_
  show Go p.tables e below T1 (mkF m 12 #[.val (.int p1), .val (.int ((p1 &&& (2147483647 : Int32)) % (12 : Int32))), .unset] [(.ref (own_1 ((p1 &&& (2147483647 : Int32)) % (12 : Int32)) a_BOOLEAN a_OCTET a_WCHAR a_UNSIGNED_LONG a_DOUBLE a_SHORT a_LONG_LONG a_CHAR a_FLOAT a_UNSIGNED_LONG_LONG a_LONG a_UNSIGNED_SHORT))]) _
  refine go1 (fun _ => XS.astoreN X1.here hx rfl (hb hby at_12) rfl rfl (l' := #[.val (.int p1), .val (.int ((p1 &&& (2147483647 : Int32)) % (12 : Int32))), .val (.ref (own_1 ((p1 &&& (2147483647 : Int32)) % (12 : Int32)) a_BOOLEAN a_OCTET a_WCHAR a_UNSIGNED_LONG a_DOUBLE a_SHORT a_LONG_LONG a_CHAR a_FLOAT a_UNSIGNED_LONG_LONG a_LONG a_UNSIGNED_SHORT))]) rfl) ?_
  show Go p.tables e below T1 (mkF m 13 #[.val (.int p1), .val (.int ((p1 &&& (2147483647 : Int32)) % (12 : Int32))), .val (.ref (own_1 ((p1 &&& (2147483647 : Int32)) % (12 : Int32)) a_BOOLEAN a_OCTET a_WCHAR a_UNSIGNED_LONG a_DOUBLE a_SHORT a_LONG_LONG a_CHAR a_FLOAT a_UNSIGNED_LONG_LONG a_LONG a_UNSIGNED_SHORT))] []) _
  refine go1 (fun _ => XS.aloadN X1.here hx rfl (hb hby at_13) rfl rfl) ?_
  show Go p.tables e below T1 (mkF m 14 #[.val (.int p1), .val (.int ((p1 &&& (2147483647 : Int32)) % (12 : Int32))), .val (.ref (own_1 ((p1 &&& (2147483647 : Int32)) % (12 : Int32)) a_BOOLEAN a_OCTET a_WCHAR a_UNSIGNED_LONG a_DOUBLE a_SHORT a_LONG_LONG a_CHAR a_FLOAT a_UNSIGNED_LONG_LONG a_LONG a_UNSIGNED_SHORT))] [(.ref (own_1 ((p1 &&& (2147483647 : Int32)) % (12 : Int32)) a_BOOLEAN a_OCTET a_WCHAR a_UNSIGNED_LONG a_DOUBLE a_SHORT a_LONG_LONG a_CHAR a_FLOAT a_UNSIGNED_LONG_LONG a_LONG a_UNSIGNED_SHORT))]) _
  obtain ⟨cq2, kq2, q2a, q2b, q2c⟩ := isOf hZ e1 ((own_cls Z ((p1 &&& (2147483647 : Int32)) % (12 : Int32)) a_BOOLEAN a_OCTET a_WCHAR a_UNSIGNED_LONG a_DOUBLE a_SHORT a_LONG_LONG a_CHAR a_FLOAT a_UNSIGNED_LONG_LONG a_LONG a_UNSIGNED_SHORT ES_a_BOOLEAN ES_a_OCTET ES_a_WCHAR ES_a_UNSIGNED_LONG ES_a_DOUBLE ES_a_SHORT ES_a_LONG_LONG ES_a_CHAR ES_a_FLOAT ES_a_UNSIGNED_LONG_LONG ES_a_LONG ES_a_UNSIGNED_SHORT).ext O0.2)
  obtain ⟨_, _, ⟨T2, L2, k2, n2⟩, -, X2, ⟨Lc2, hQ2, l2, y2, z2⟩, st2⟩ := X1.virtualBack hx (y := (⟨"com/example/stubwright/stubwright/idl/PrimitiveType", "isInteger", "()Z"⟩ : MethodName)) (z := (⟨"com/example/stubwright/stubwright/idl/PrimitiveType", "isInteger", "()Z"⟩ : MethodName)) hown (mvT hZ (hw _ (List.mem_of_getElem? (i := 8) rfl))) (mvT hZ (hw _ (List.mem_of_getElem? (i := 9) rfl))) (notFace_of_selects (args := #[]) (mvT hZ (hw _ (List.mem_of_getElem? (i := 11) rfl)))) (mvT hZ (hw _ (List.mem_of_getElem? (i := 11) rfl))) (mvT hZ (hw _ (List.mem_of_getElem? (i := 10) rfl))) (by decide) (backOf (W := 0) (rm2 l Z a0 hw [] (own_1 ((p1 &&& (2147483647 : Int32)) % (12 : Int32)) a_BOOLEAN a_OCTET a_WCHAR a_UNSIGNED_LONG a_DOUBLE a_SHORT a_LONG_LONG a_CHAR a_FLOAT a_UNSIGNED_LONG_LONG a_LONG a_UNSIGNED_SHORT) (own_bits ((p1 &&& (2147483647 : Int32)) % (12 : Int32))) a_OCTET h0 n0 Z0 O0 ((own_fld Z ((p1 &&& (2147483647 : Int32)) % (12 : Int32)) a_BOOLEAN a_OCTET a_WCHAR a_UNSIGNED_LONG a_DOUBLE a_SHORT a_LONG_LONG a_CHAR a_FLOAT a_UNSIGNED_LONG_LONG a_LONG a_UNSIGNED_SHORT FS_bits_a_BOOLEAN FS_bits_a_OCTET FS_bits_a_WCHAR FS_bits_a_UNSIGNED_LONG FS_bits_a_DOUBLE FS_bits_a_SHORT FS_bits_a_LONG_LONG FS_bits_a_CHAR FS_bits_a_FLOAT FS_bits_a_UNSIGNED_LONG_LONG FS_bits_a_LONG FS_bits_a_UNSIGNED_SHORT).ext O0.2) S_OCTET) hZ (hw _ (List.mem_of_getElem? (i := 12) rfl)) (hw _ (List.mem_of_getElem? (i := 6) rfl)) (by decide) (by decide)) q2a q2c (g := (mkF m 14 #[.val (.int p1), .val (.int ((p1 &&& (2147483647 : Int32)) % (12 : Int32))), .val (.ref (own_1 ((p1 &&& (2147483647 : Int32)) % (12 : Int32)) a_BOOLEAN a_OCTET a_WCHAR a_UNSIGNED_LONG a_DOUBLE a_SHORT a_LONG_LONG a_CHAR a_FLOAT a_UNSIGNED_LONG_LONG a_LONG a_UNSIGNED_SHORT))] [(.ref (own_1 ((p1 &&& (2147483647 : Int32)) % (12 : Int32)) a_BOOLEAN a_OCTET a_WCHAR a_UNSIGNED_LONG a_DOUBLE a_SHORT a_LONG_LONG a_CHAR a_FLOAT a_UNSIGNED_LONG_LONG a_LONG a_UNSIGNED_SHORT))])) rfl (by rw [hml]; rfl) (Steps.refl _) (argsL := []) (rest := []) (lenOf pd0_1 rfl) rfl (by show 2 * 0 + _ ≤ _; exact Nat.le_of_eq rfl) (hb hby at_14) (fun _ _ => ⟨rfl, e1, (by decide : 0 + 0 ≤ _), (by decide : 0 + 0 ≤ _)⟩)
  dsimp only [Pt.U, Pt.locs, Pt.cells, Pt.slots] at X2 l2 y2 z2 st2 hQ2
  subst l2 y2 z2
  obtain ⟨rfl, N2q, e2⟩ := hQ2
  have N2 := Fr.app N1 N2q
  refine goT st2 ?_
  show Go p.tables e below T2 (mkF m 17 #[.val (.int p1), .val (.int ((p1 &&& (2147483647 : Int32)) % (12 : Int32))), .val (.ref (own_1 ((p1 &&& (2147483647 : Int32)) % (12 : Int32)) a_BOOLEAN a_OCTET a_WCHAR a_UNSIGNED_LONG a_DOUBLE a_SHORT a_LONG_LONG a_CHAR a_FLOAT a_UNSIGNED_LONG_LONG a_LONG a_UNSIGNED_SHORT))] [(.int (own_2 (own_1 ((p1 &&& (2147483647 : Int32)) % (12 : Int32)) a_BOOLEAN a_OCTET a_WCHAR a_UNSIGNED_LONG a_DOUBLE a_SHORT a_LONG_LONG a_CHAR a_FLOAT a_UNSIGNED_LONG_LONG a_LONG a_UNSIGNED_SHORT) (own_bits ((p1 &&& (2147483647 : Int32)) % (12 : Int32))) a_OCTET))]) _
  refine go1 (fun _ => XS.iloadN X2.here hx rfl (hb hby at_17) rfl) ?_
  show Go p.tables e below T2 (mkF m 18 #[.val (.int p1), .val (.int ((p1 &&& (2147483647 : Int32)) % (12 : Int32))), .val (.ref (own_1 ((p1 &&& (2147483647 : Int32)) % (12 : Int32)) a_BOOLEAN a_OCTET a_WCHAR a_UNSIGNED_LONG a_DOUBLE a_SHORT a_LONG_LONG a_CHAR a_FLOAT a_UNSIGNED_LONG_LONG a_LONG a_UNSIGNED_SHORT))] [(.int ((p1 &&& (2147483647 : Int32)) % (12 : Int32))), (.int (own_2 (own_1 ((p1 &&& (2147483647 : Int32)) % (12 : Int32)) a_BOOLEAN a_OCTET a_WCHAR a_UNSIGNED_LONG a_DOUBLE a_SHORT a_LONG_LONG a_CHAR a_FLOAT a_UNSIGNED_LONG_LONG a_LONG a_UNSIGNED_SHORT) (own_bits ((p1 &&& (2147483647 : Int32)) % (12 : Int32))) a_OCTET))]) _
  obtain ⟨_, _, ⟨T3, L3, k3, n3⟩, -, X3, ⟨Lc3, hQ3, l3, y3, z3⟩, st3⟩ := Jvm.LawKit.callS X2 hx (y := (⟨"com/example/stubwright/stubwright/idl/PrimitiveTypeIsIntegerPinLaw", "expected", "(I)Z"⟩ : MethodName)) hown (mvT hZ (hw _ (List.mem_of_getElem? (i := 15) rfl))) (mvT hZ (hw _ (List.mem_of_getElem? (i := 16) rfl))) (mvT hZ (hw _ (List.mem_of_getElem? (i := 3) rfl))) (mvT hZ (hw _ (List.mem_of_getElem? (i := 17) rfl))) (by decide) (backOf (W := 1) (rm3 l Z a0 hw [] ((p1 &&& (2147483647 : Int32)) % (12 : Int32)) h0 n0 Z0 ) hZ (hw _ (List.mem_of_getElem? (i := 17) rfl)) (hw _ (List.mem_of_getElem? (i := 3) rfl)) (by decide) (by decide)) (g := (mkF m 18 #[.val (.int p1), .val (.int ((p1 &&& (2147483647 : Int32)) % (12 : Int32))), .val (.ref (own_1 ((p1 &&& (2147483647 : Int32)) % (12 : Int32)) a_BOOLEAN a_OCTET a_WCHAR a_UNSIGNED_LONG a_DOUBLE a_SHORT a_LONG_LONG a_CHAR a_FLOAT a_UNSIGNED_LONG_LONG a_LONG a_UNSIGNED_SHORT))] [(.int ((p1 &&& (2147483647 : Int32)) % (12 : Int32))), (.int (own_2 (own_1 ((p1 &&& (2147483647 : Int32)) % (12 : Int32)) a_BOOLEAN a_OCTET a_WCHAR a_UNSIGNED_LONG a_DOUBLE a_SHORT a_LONG_LONG a_CHAR a_FLOAT a_UNSIGNED_LONG_LONG a_LONG a_UNSIGNED_SHORT) (own_bits ((p1 &&& (2147483647 : Int32)) % (12 : Int32))) a_OCTET))])) rfl (by rw [hml]; rfl) (argsL := [(.int ((p1 &&& (2147483647 : Int32)) % (12 : Int32)))]) (rest := [(.int (own_2 (own_1 ((p1 &&& (2147483647 : Int32)) % (12 : Int32)) a_BOOLEAN a_OCTET a_WCHAR a_UNSIGNED_LONG a_DOUBLE a_SHORT a_LONG_LONG a_CHAR a_FLOAT a_UNSIGNED_LONG_LONG a_LONG a_UNSIGNED_SHORT) (own_bits ((p1 &&& (2147483647 : Int32)) % (12 : Int32))) a_OCTET))]) (lenOf pd0_2 rfl) rfl (by show 2 * 0 + _ ≤ _; exact Nat.le_of_eq rfl) (hb hby at_18) (fun _ _ => ⟨rfl, e2, (by decide : 0 + 0 ≤ _), (by decide : 0 + 0 ≤ _)⟩)
  dsimp only [Pt.U, Pt.locs, Pt.cells, Pt.slots] at X3 l3 y3 z3 st3 hQ3
  subst l3 y3 z3
  obtain ⟨rfl, N3q, e3⟩ := hQ3
  have N3 := Fr.app N2 N3q
  refine go1 st3 ?_
  show Go p.tables e below T3 (mkF m 21 #[.val (.int p1), .val (.int ((p1 &&& (2147483647 : Int32)) % (12 : Int32))), .val (.ref (own_1 ((p1 &&& (2147483647 : Int32)) % (12 : Int32)) a_BOOLEAN a_OCTET a_WCHAR a_UNSIGNED_LONG a_DOUBLE a_SHORT a_LONG_LONG a_CHAR a_FLOAT a_UNSIGNED_LONG_LONG a_LONG a_UNSIGNED_SHORT))] [(.int (own_3 ((p1 &&& (2147483647 : Int32)) % (12 : Int32)))), (.int (own_2 (own_1 ((p1 &&& (2147483647 : Int32)) % (12 : Int32)) a_BOOLEAN a_OCTET a_WCHAR a_UNSIGNED_LONG a_DOUBLE a_SHORT a_LONG_LONG a_CHAR a_FLOAT a_UNSIGNED_LONG_LONG a_LONG a_UNSIGNED_SHORT) (own_bits ((p1 &&& (2147483647 : Int32)) % (12 : Int32))) a_OCTET))]) _
  by_cases hc4 : (own_2 (own_1 ((p1 &&& (2147483647 : Int32)) % (12 : Int32)) a_BOOLEAN a_OCTET a_WCHAR a_UNSIGNED_LONG a_DOUBLE a_SHORT a_LONG_LONG a_CHAR a_FLOAT a_UNSIGNED_LONG_LONG a_LONG a_UNSIGNED_SHORT) (own_bits ((p1 &&& (2147483647 : Int32)) % (12 : Int32))) a_OCTET) = (own_3 ((p1 &&& (2147483647 : Int32)) % (12 : Int32)))
  · skip
    refine go1 (fun _ => XS.icmpNo X3.here hx rfl (hb hby at_21) rfl (teq hc4).2) ?_
    show Go p.tables e below T3 (mkF m 24 #[.val (.int p1), .val (.int ((p1 &&& (2147483647 : Int32)) % (12 : Int32))), .val (.ref (own_1 ((p1 &&& (2147483647 : Int32)) % (12 : Int32)) a_BOOLEAN a_OCTET a_WCHAR a_UNSIGNED_LONG a_DOUBLE a_SHORT a_LONG_LONG a_CHAR a_FLOAT a_UNSIGNED_LONG_LONG a_LONG a_UNSIGNED_SHORT))] []) _
    refine go1 (fun _ => XS.iconst X3.here hx rfl (hb hby at_24)) ?_
    show Go p.tables e below T3 (mkF m 25 #[.val (.int p1), .val (.int ((p1 &&& (2147483647 : Int32)) % (12 : Int32))), .val (.ref (own_1 ((p1 &&& (2147483647 : Int32)) % (12 : Int32)) a_BOOLEAN a_OCTET a_WCHAR a_UNSIGNED_LONG a_DOUBLE a_SHORT a_LONG_LONG a_CHAR a_FLOAT a_UNSIGNED_LONG_LONG a_LONG a_UNSIGNED_SHORT))] [(.int (1 : Int32))]) _
    refine go1 (fun _ => XS.goto X3.here hx rfl (pc0 := 25) (pc' := 29) rfl (hb hby at_25) (by decide) (by decide)) ?_
    show Go p.tables e below T3 (mkF m 29 #[.val (.int p1), .val (.int ((p1 &&& (2147483647 : Int32)) % (12 : Int32))), .val (.ref (own_1 ((p1 &&& (2147483647 : Int32)) % (12 : Int32)) a_BOOLEAN a_OCTET a_WCHAR a_UNSIGNED_LONG a_DOUBLE a_SHORT a_LONG_LONG a_CHAR a_FLOAT a_UNSIGNED_LONG_LONG a_LONG a_UNSIGNED_SHORT))] [(.int (1 : Int32))]) _
    refine goR X3 (BodyLoose.notSynchronized Bd) (v := (some (.int (1 : Int32)))) (fun h => by rw [Bd.returns] at h; cases h) (Q0 Z p1 a_BOOLEAN a_OCTET a_WCHAR a_UNSIGNED_LONG a_DOUBLE a_SHORT a_LONG_LONG a_CHAR a_FLOAT a_UNSIGNED_LONG_LONG a_LONG a_UNSIGNED_SHORT h0 n0) (fun fs hr => retN X3 hx (t := .boolean) Bd.returns (by simp) (hb hby at_29) hr) (by decide) (by decide) ?_
    show Q0 Z p1 a_BOOLEAN a_OCTET a_WCHAR a_UNSIGNED_LONG a_DOUBLE a_SHORT a_LONG_LONG a_CHAR a_FLOAT a_UNSIGNED_LONG_LONG a_LONG a_UNSIGNED_SHORT h0 n0 _ T3.heap _
    rw [e3]
    exact ⟨(by rw [own_0, if_pos hc4]), N3⟩
  · skip
    refine go1 (fun _ => XS.icmpYes X3.here hx rfl (pc0 := 21) (pc' := 28) rfl (hb hby at_21) rfl (feq hc4).2 (by decide) (by decide)) ?_
    show Go p.tables e below T3 (mkF m 28 #[.val (.int p1), .val (.int ((p1 &&& (2147483647 : Int32)) % (12 : Int32))), .val (.ref (own_1 ((p1 &&& (2147483647 : Int32)) % (12 : Int32)) a_BOOLEAN a_OCTET a_WCHAR a_UNSIGNED_LONG a_DOUBLE a_SHORT a_LONG_LONG a_CHAR a_FLOAT a_UNSIGNED_LONG_LONG a_LONG a_UNSIGNED_SHORT))] []) _
    refine go1 (fun _ => XS.iconst X3.here hx rfl (hb hby at_28)) ?_
    show Go p.tables e below T3 (mkF m 29 #[.val (.int p1), .val (.int ((p1 &&& (2147483647 : Int32)) % (12 : Int32))), .val (.ref (own_1 ((p1 &&& (2147483647 : Int32)) % (12 : Int32)) a_BOOLEAN a_OCTET a_WCHAR a_UNSIGNED_LONG a_DOUBLE a_SHORT a_LONG_LONG a_CHAR a_FLOAT a_UNSIGNED_LONG_LONG a_LONG a_UNSIGNED_SHORT))] [(.int (0 : Int32))]) _
    refine goR X3 (BodyLoose.notSynchronized Bd) (v := (some (.int (0 : Int32)))) (fun h => by rw [Bd.returns] at h; cases h) (Q0 Z p1 a_BOOLEAN a_OCTET a_WCHAR a_UNSIGNED_LONG a_DOUBLE a_SHORT a_LONG_LONG a_CHAR a_FLOAT a_UNSIGNED_LONG_LONG a_LONG a_UNSIGNED_SHORT h0 n0) (fun fs hr => retN X3 hx (t := .boolean) Bd.returns (by simp) (hb hby at_29) hr) (by decide) (by decide) ?_
    show Q0 Z p1 a_BOOLEAN a_OCTET a_WCHAR a_UNSIGNED_LONG a_DOUBLE a_SHORT a_LONG_LONG a_CHAR a_FLOAT a_UNSIGNED_LONG_LONG a_LONG a_UNSIGNED_SHORT h0 n0 _ T3.heap _
    rw [e3]
    exact ⟨(by rw [own_0, if_neg hc4]), N3⟩
theorem own_range (x : Int32) : ((x &&& (2147483647 : Int32)) % (12 : Int32)) = 0 ∨ ((x &&& (2147483647 : Int32)) % (12 : Int32)) = 1 ∨ ((x &&& (2147483647 : Int32)) % (12 : Int32)) = 2 ∨ ((x &&& (2147483647 : Int32)) % (12 : Int32)) = 3 ∨ ((x &&& (2147483647 : Int32)) % (12 : Int32)) = 4 ∨ ((x &&& (2147483647 : Int32)) % (12 : Int32)) = 5 ∨ ((x &&& (2147483647 : Int32)) % (12 : Int32)) = 6 ∨ ((x &&& (2147483647 : Int32)) % (12 : Int32)) = 7 ∨ ((x &&& (2147483647 : Int32)) % (12 : Int32)) = 8 ∨ ((x &&& (2147483647 : Int32)) % (12 : Int32)) = 9 ∨ ((x &&& (2147483647 : Int32)) % (12 : Int32)) = 10 ∨ ((x &&& (2147483647 : Int32)) % (12 : Int32)) = 11 := by
  have h1 := c_mask x (2147483647 : Int32) 31 (by decide) (by decide)
  have h2 := (c_irem (x &&& (2147483647 : Int32)) (12 : Int32) 12 (by decide)).1 (by omega)
  generalize ((x &&& (2147483647 : Int32)) % (12 : Int32)) = k at *
  simp only [← Int32.toInt_inj]
  have l : (0 : Int32).toInt = 0 ∧ (1 : Int32).toInt = 1 ∧ (2 : Int32).toInt = 2 ∧ (3 : Int32).toInt = 3 ∧ (4 : Int32).toInt = 4 ∧ (5 : Int32).toInt = 5 ∧ (6 : Int32).toInt = 6 ∧ (7 : Int32).toInt = 7 ∧ (8 : Int32).toInt = 8 ∧ (9 : Int32).toInt = 9 ∧ (10 : Int32).toInt = 10 ∧ (11 : Int32).toInt = 11 := by decide
  omega
theorem own_true (x : Int32) (a_BOOLEAN a_OCTET a_WCHAR a_UNSIGNED_LONG a_DOUBLE a_SHORT a_LONG_LONG a_CHAR a_FLOAT a_UNSIGNED_LONG_LONG a_LONG a_UNSIGNED_SHORT : Addr) (n0 : ¬ a_UNSIGNED_LONG = a_OCTET) (n1 : ¬ a_SHORT = a_OCTET) (n2 : ¬ a_LONG_LONG = a_OCTET) (n3 : ¬ a_UNSIGNED_LONG_LONG = a_OCTET) (n4 : ¬ a_LONG = a_OCTET) (n5 : ¬ a_UNSIGNED_SHORT = a_OCTET) : own_0 x a_BOOLEAN a_OCTET a_WCHAR a_UNSIGNED_LONG a_DOUBLE a_SHORT a_LONG_LONG a_CHAR a_FLOAT a_UNSIGNED_LONG_LONG a_LONG a_UNSIGNED_SHORT = 1 := by
  rcases own_range x with h | h | h | h | h | h | h | h | h | h | h | h
  all_goals (simp [own_0, own_1, own_2, own_3, own_bits, h, *])
set_option maxRecDepth 65536 in
set_option maxHeartbeats 40000000 in
theorem comes_1 {Post : Tables → Env → Array Value → State → Outcome → State → Prop} (hpost : ∀ tb e args s v u, (limb_1_1.after args s (.returned v) u = true ∧ limb_1_2.after args s (.returned v) u = true ∧ True) → FrameEnd s (.returned v) u (Jvm.fieldLocs frame_1_writes args s ++ Jvm.arrayLocs frame_1_arrays args s ++ Jvm.staticLocs frame_1_statics s) 0 0 → Post tb e args s (.returned v) u) :
    ArmFor flags0 classFile x code maxLocals ret World_1 tables_1 room_1 Calls_1 rest_1 Pre_1 Post := by
  intro l hfl _ _ p e ha hc hk s m args below hf hA hF happ hP
  obtain ⟨hcalls, hrest, hpre⟩ := hP
  obtain ⟨-, -, -, hnamed, -, -, -, hat⟩ := (Spec.applies_iff hf).mp happ
  obtain ⟨hg, hn⟩ := and_e (Cond.before_iff.mp (show (Jvm.Cond.and given_1 narrow_1).before args s = true from hpre))
  obtain ⟨gc, q0⟩ := and_e hg
  have ga0 := q0
  obtain ⟨w0, rfl⟩ : ∃ w0 : Value, args = #[w0] := by
    have hs : args.size = 1 := by simpa [Cond.value, given_1] using gc
    obtain ⟨L⟩ := args
    match L, hs with
    | [w0], _ => exact ⟨w0, rfl⟩
  have hw := fun d (hd : d ∈ tables_1) => atoms_spec (ws := Jvm.Cond.code x code maxLocals ret :: tables_1) hat d (List.mem_cons_of_mem _ hd)
  have hfit : Fit s := fun {y c} hc i hi => by
    obtain ⟨ha, rfl⟩ := Array.getElem?_eq_some_iff.mp hc
    have q := List.all_eq_true.mp ((Array.all_eq_true_iff_forall_mem.mp hF) _ (Array.getElem_mem ha)) i (List.mem_range.mpr hi)
    simpa [Array.getElem?_eq_getElem hi] using q
  obtain ⟨i0, ei0⟩ := is_v ga0
  obtain rfl : w0 = (.int i0) := Option.some.inj ei0
  obtain ⟨nq1a, nq1b⟩ := and_e hn
  obtain ⟨nq2a, nq2b⟩ := and_e nq1b
  obtain ⟨nq3a, nq3b⟩ := and_e nq2b
  obtain ⟨nq4a, nq4b⟩ := and_e nq3b
  obtain ⟨nq5a, nq5b⟩ := and_e nq4b
  obtain ⟨nq6a, nq6b⟩ := and_e nq5b
  obtain ⟨nq7a, nq7b⟩ := and_e nq6b
  obtain ⟨nq8a, nq8b⟩ := and_e nq7b
  obtain ⟨nq9a, nq9b⟩ := and_e nq8b
  obtain ⟨nq10a, nq10b⟩ := and_e nq9b
  obtain ⟨nq11a, nq11b⟩ := and_e nq10b
  obtain ⟨nq12a, nq12b⟩ := and_e nq11b
  obtain ⟨nq13a, nq13b⟩ := and_e nq12b
  obtain ⟨nq14a, nq14b⟩ := and_e nq13b
  obtain ⟨nq15a, nq15b⟩ := and_e nq14b
  obtain ⟨nq16a, nq16b⟩ := and_e nq15b
  obtain ⟨nq17a, nq17b⟩ := and_e nq16b
  obtain ⟨nq18a, nq18b⟩ := and_e nq17b
  obtain ⟨nq19a, nq19b⟩ := and_e nq18b
  obtain ⟨nq20a, nq20b⟩ := and_e nq19b
  obtain ⟨nq21a, nq21b⟩ := and_e nq20b
  obtain ⟨nq22a, nq22b⟩ := and_e nq21b
  obtain ⟨nq23a, nq23b⟩ := and_e nq22b
  obtain ⟨nq24a, nq24b⟩ := and_e nq23b
  obtain ⟨nq25a, nq25b⟩ := and_e nq24b
  obtain ⟨nq26a, nq26b⟩ := and_e nq25b
  obtain ⟨nq27a, nq27b⟩ := and_e nq26b
  obtain ⟨nq28a, nq28b⟩ := and_e nq27b
  obtain ⟨nq29a, nq29b⟩ := and_e nq28b
  obtain ⟨nq30a, nq30b⟩ := and_e nq29b
  obtain ⟨a_BOOLEAN, ev_a_BOOLEAN⟩ := exa_v nq1a
  have S_a_BOOLEAN := Sta.start ev_a_BOOLEAN (Or.inr ⟨(hw _ (List.mem_of_getElem? (i := 6) rfl)), (hw _ (List.mem_of_getElem? (i := 7) rfl))⟩)
  have ES_a_BOOLEAN := Exa.start ev_a_BOOLEAN nq1a
  obtain ⟨a_OCTET, ev_a_OCTET⟩ := exa_v nq3a
  have S_a_OCTET := Sta.start ev_a_OCTET (Or.inr ⟨(hw _ (List.mem_of_getElem? (i := 6) rfl)), (hw _ (List.mem_of_getElem? (i := 19) rfl))⟩)
  have ES_a_OCTET := Exa.start ev_a_OCTET nq3a
  obtain ⟨a_WCHAR, ev_a_WCHAR⟩ := exa_v nq5a
  have S_a_WCHAR := Sta.start ev_a_WCHAR (Or.inr ⟨(hw _ (List.mem_of_getElem? (i := 6) rfl)), (hw _ (List.mem_of_getElem? (i := 22) rfl))⟩)
  have ES_a_WCHAR := Exa.start ev_a_WCHAR nq5a
  obtain ⟨a_UNSIGNED_LONG, ev_a_UNSIGNED_LONG⟩ := exa_v nq7a
  have S_a_UNSIGNED_LONG := Sta.start ev_a_UNSIGNED_LONG (Or.inr ⟨(hw _ (List.mem_of_getElem? (i := 6) rfl)), (hw _ (List.mem_of_getElem? (i := 24) rfl))⟩)
  have ES_a_UNSIGNED_LONG := Exa.start ev_a_UNSIGNED_LONG nq7a
  obtain ⟨a_DOUBLE, ev_a_DOUBLE⟩ := exa_v nq11a
  have S_a_DOUBLE := Sta.start ev_a_DOUBLE (Or.inr ⟨(hw _ (List.mem_of_getElem? (i := 6) rfl)), (hw _ (List.mem_of_getElem? (i := 26) rfl))⟩)
  have ES_a_DOUBLE := Exa.start ev_a_DOUBLE nq11a
  obtain ⟨a_SHORT, ev_a_SHORT⟩ := exa_v nq13a
  have S_a_SHORT := Sta.start ev_a_SHORT (Or.inr ⟨(hw _ (List.mem_of_getElem? (i := 6) rfl)), (hw _ (List.mem_of_getElem? (i := 28) rfl))⟩)
  have ES_a_SHORT := Exa.start ev_a_SHORT nq13a
  obtain ⟨a_LONG_LONG, ev_a_LONG_LONG⟩ := exa_v nq16a
  have S_a_LONG_LONG := Sta.start ev_a_LONG_LONG (Or.inr ⟨(hw _ (List.mem_of_getElem? (i := 6) rfl)), (hw _ (List.mem_of_getElem? (i := 30) rfl))⟩)
  have ES_a_LONG_LONG := Exa.start ev_a_LONG_LONG nq16a
  obtain ⟨a_CHAR, ev_a_CHAR⟩ := exa_v nq19a
  have S_a_CHAR := Sta.start ev_a_CHAR (Or.inr ⟨(hw _ (List.mem_of_getElem? (i := 6) rfl)), (hw _ (List.mem_of_getElem? (i := 32) rfl))⟩)
  have ES_a_CHAR := Exa.start ev_a_CHAR nq19a
  obtain ⟨a_FLOAT, ev_a_FLOAT⟩ := exa_v nq21a
  have S_a_FLOAT := Sta.start ev_a_FLOAT (Or.inr ⟨(hw _ (List.mem_of_getElem? (i := 6) rfl)), (hw _ (List.mem_of_getElem? (i := 34) rfl))⟩)
  have ES_a_FLOAT := Exa.start ev_a_FLOAT nq21a
  obtain ⟨a_UNSIGNED_LONG_LONG, ev_a_UNSIGNED_LONG_LONG⟩ := exa_v nq23a
  have S_a_UNSIGNED_LONG_LONG := Sta.start ev_a_UNSIGNED_LONG_LONG (Or.inr ⟨(hw _ (List.mem_of_getElem? (i := 6) rfl)), (hw _ (List.mem_of_getElem? (i := 36) rfl))⟩)
  have ES_a_UNSIGNED_LONG_LONG := Exa.start ev_a_UNSIGNED_LONG_LONG nq23a
  obtain ⟨a_LONG, ev_a_LONG⟩ := exa_v nq26a
  have S_a_LONG := Sta.start ev_a_LONG (Or.inr ⟨(hw _ (List.mem_of_getElem? (i := 6) rfl)), (hw _ (List.mem_of_getElem? (i := 38) rfl))⟩)
  have ES_a_LONG := Exa.start ev_a_LONG nq26a
  obtain ⟨a_UNSIGNED_SHORT, ev_a_UNSIGNED_SHORT⟩ := exa_v nq29a
  have S_a_UNSIGNED_SHORT := Sta.start ev_a_UNSIGNED_SHORT (Or.inr ⟨(hw _ (List.mem_of_getElem? (i := 6) rfl)), (hw _ (List.mem_of_getElem? (i := 40) rfl))⟩)
  have ES_a_UNSIGNED_SHORT := Exa.start ev_a_UNSIGNED_SHORT nq29a
  have FS_bits_a_BOOLEAN := Fld.start ((fld_at ev_a_BOOLEAN).symm.trans (eqv_i (Term.int_eval (0 : Int32)) nq2a))
  have FS_bits_a_OCTET := Fld.start ((fld_at ev_a_OCTET).symm.trans (eqv_i (Term.int_eval (8 : Int32)) nq4a))
  have FS_bits_a_WCHAR := Fld.start ((fld_at ev_a_WCHAR).symm.trans (eqv_i (Term.int_eval (0 : Int32)) nq6a))
  have FS_bits_a_UNSIGNED_LONG := Fld.start ((fld_at ev_a_UNSIGNED_LONG).symm.trans (eqv_i (Term.int_eval (32 : Int32)) nq8a))
  have FS_ordinal_a_UNSIGNED_LONG := Fld.start ((fld_at ev_a_UNSIGNED_LONG).symm.trans (eqv_i (Term.int_eval (7 : Int32)) nq9a))
  have FS_ordinal_a_OCTET := Fld.start ((fld_at ev_a_OCTET).symm.trans (eqv_i (Term.int_eval (3 : Int32)) nq10a))
  have FS_bits_a_DOUBLE := Fld.start ((fld_at ev_a_DOUBLE).symm.trans (eqv_i (Term.int_eval (0 : Int32)) nq12a))
  have FS_bits_a_SHORT := Fld.start ((fld_at ev_a_SHORT).symm.trans (eqv_i (Term.int_eval (16 : Int32)) nq14a))
  have FS_ordinal_a_SHORT := Fld.start ((fld_at ev_a_SHORT).symm.trans (eqv_i (Term.int_eval (4 : Int32)) nq15a))
  have FS_bits_a_LONG_LONG := Fld.start ((fld_at ev_a_LONG_LONG).symm.trans (eqv_i (Term.int_eval (64 : Int32)) nq17a))
  have FS_ordinal_a_LONG_LONG := Fld.start ((fld_at ev_a_LONG_LONG).symm.trans (eqv_i (Term.int_eval (8 : Int32)) nq18a))
  have FS_bits_a_CHAR := Fld.start ((fld_at ev_a_CHAR).symm.trans (eqv_i (Term.int_eval (0 : Int32)) nq20a))
  have FS_bits_a_FLOAT := Fld.start ((fld_at ev_a_FLOAT).symm.trans (eqv_i (Term.int_eval (0 : Int32)) nq22a))
  have FS_bits_a_UNSIGNED_LONG_LONG := Fld.start ((fld_at ev_a_UNSIGNED_LONG_LONG).symm.trans (eqv_i (Term.int_eval (64 : Int32)) nq24a))
  have FS_ordinal_a_UNSIGNED_LONG_LONG := Fld.start ((fld_at ev_a_UNSIGNED_LONG_LONG).symm.trans (eqv_i (Term.int_eval (9 : Int32)) nq25a))
  have FS_bits_a_LONG := Fld.start ((fld_at ev_a_LONG).symm.trans (eqv_i (Term.int_eval (32 : Int32)) nq27a))
  have FS_ordinal_a_LONG := Fld.start ((fld_at ev_a_LONG).symm.trans (eqv_i (Term.int_eval (6 : Int32)) nq28a))
  have FS_bits_a_UNSIGNED_SHORT := Fld.start ((fld_at ev_a_UNSIGNED_SHORT).symm.trans (eqv_i (Term.int_eval (16 : Int32)) nq30a))
  have FS_ordinal_a_UNSIGNED_SHORT := Fld.start ((fld_at ev_a_UNSIGNED_SHORT).symm.trans (eqv_i (Term.int_eval (5 : Int32)) nq30b))
  obtain ⟨n, o, h1, h2, h3, _, L, rfl, ⟨hv, N⟩, hq⟩ := rm0 l s _ hw tables_1 i0 a_BOOLEAN a_OCTET a_WCHAR a_UNSIGNED_LONG a_DOUBLE a_SHORT a_LONG_LONG a_CHAR a_FLOAT a_UNSIGNED_LONG_LONG a_LONG a_UNSIGNED_SHORT s.heap s.heap.size (Nat.le_refl _) (Old.start s) S_a_BOOLEAN ES_a_BOOLEAN S_a_OCTET ES_a_OCTET S_a_WCHAR ES_a_WCHAR S_a_UNSIGNED_LONG ES_a_UNSIGNED_LONG S_a_DOUBLE ES_a_DOUBLE S_a_SHORT ES_a_SHORT S_a_LONG_LONG ES_a_LONG_LONG S_a_CHAR ES_a_CHAR S_a_FLOAT ES_a_FLOAT S_a_UNSIGNED_LONG_LONG ES_a_UNSIGNED_LONG_LONG S_a_LONG ES_a_LONG S_a_UNSIGNED_SHORT ES_a_UNSIGNED_SHORT FS_bits_a_BOOLEAN FS_bits_a_OCTET FS_bits_a_WCHAR FS_bits_a_UNSIGNED_LONG FS_bits_a_DOUBLE FS_bits_a_SHORT FS_bits_a_LONG_LONG FS_bits_a_CHAR FS_bits_a_FLOAT FS_bits_a_UNSIGNED_LONG_LONG FS_bits_a_LONG FS_bits_a_UNSIGNED_SHORT p e ha hc hk s m _ below hf ((Spec.applies_iff_loose hf).mp happ).1 ⟨rfl, State.Warmed39.refl s, rfl⟩ trivial
  rw [own_true _ a_BOOLEAN a_OCTET a_WCHAR a_UNSIGNED_LONG a_DOUBLE a_SHORT a_LONG_LONG a_CHAR a_FLOAT a_UNSIGNED_LONG_LONG a_LONG a_UNSIGNED_SHORT (Fld.ne FS_ordinal_a_UNSIGNED_LONG FS_ordinal_a_OCTET (by decide)) (Fld.ne FS_ordinal_a_SHORT FS_ordinal_a_OCTET (by decide)) (Fld.ne FS_ordinal_a_LONG_LONG FS_ordinal_a_OCTET (by decide)) (Fld.ne FS_ordinal_a_UNSIGNED_LONG_LONG FS_ordinal_a_OCTET (by decide)) (Fld.ne FS_ordinal_a_LONG FS_ordinal_a_OCTET (by decide)) (Fld.ne FS_ordinal_a_UNSIGNED_SHORT FS_ordinal_a_OCTET (by decide))] at hv
  subst hv
  refine ⟨n, _, h1, h2, h3, hpost _ _ _ _ _ _ ⟨Cond.after_iff.mpr rfl, Cond.after_iff.mpr (eq_i res_at (Term.int_eval (1)) rfl), trivial⟩ ⟨hq.1, hq.2.1, (hq.2.2.sift fun y hy => Or.inr (N y hy)).mono (by decide) (by decide)⟩⟩
theorem main_1_1 : Claimed_1_1 := comes_1 fun _ _ _ _ _ _ h hF => ⟨h.1, hF⟩
theorem main_1_2 : Claimed_1_2 := comes_1 fun _ _ _ _ _ _ h hF => ⟨h.2.1, hF⟩
end Jvm.Pilot.@@N@@
namespace Jvm.Pilot.@@N@@
open Jvm Jvm.ClassFile Sem Op Lib Jvm.Free Jvm.Stand Jvm.Pilot.@@N@@.Jvm.D
/-! MADE BY PROGRAM (witnessworld.py) out of the Statement's table words and the real class files: 13 classes; the members and pool entries that the words name. The judged class is class 1, her method 3. -/
namespace start1
open Jvm.ClassFile
def u (s : String) : CpInfo := .utf8 (stringToUtf16 s)
/-- a pool by its gaps: so many unusable entries, then the entry; so many at the end -/
def gap : Nat → List CpInfo → List CpInfo
  | 0, r => r
  | n + 1, r => .unusable :: gap n r
def poolList (es : List (Nat × CpInfo)) (last : Nat) : List CpInfo := es.foldr (fun e r => gap e.1 (e.2 :: r)) (gap last [])
def pool (es : List (Nat × CpInfo)) (last : Nat) : Array CpInfo := ⟨poolList es last⟩
def fileOf (pool : Array CpInfo) (this : Nat) (attrs : Array Attribute := #[]) (ms : Array MethodInfo := #[]) (fl : Nat := 33) (sup : Nat := 0) (ifs : Array Nat := #[]) (fds : Array FieldInfo := #[]) : ClassFile where
  minorVersion := 0
  majorVersion := 65
  constantPool := pool
  accessFlags := fl
  thisClass := this
  superClass := sup
  interfaces := ifs
  fields := fds
  methods := ms
  attributes := attrs
def plain (name : String) (sup : Option ClassId) : Class where
  name := name
  kind := .ordinary
  loader := none
  accessFlags := 33
  super := sup
  interfaces := #[]
  cf := none
  fields := #[]
  methods := #[]
  instanceTypes := #[]
  staticTypes := #[]
  resolved := #[]
  callSites := []
  init := .initialized
  statics := none
  mirror := none

def pool0 : Array CpInfo := pool [(5, u "<init>"), (0, u "()V"), (1, .class_ 10), (1, u "java/lang/Object")] 113

def k0m0 : Method := { name := "<init>", desc := "()V", sig := { parameters := [], returnType := none }, accessFlags := 1, code := none }
/-- java/lang/Object -/
def k0 : Class := { plain "java/lang/Object" none with
  accessFlags := 33
  interfaces := #[]
  cf := some (fileOf pool0 8 #[] #[{ accessFlags := 1, nameIndex := 5, descriptorIndex := 6, attributes := #[] }] 33 0 #[] #[])
  fields := #[]
  methods := #[k0m0]
  instanceTypes := #[]
  staticTypes := #[]
  resolved := Array.replicate 124 none
  statics := none }

def pool1 : Array CpInfo := pool [(2, .class_ 4), (1, u "java/lang/Object"), (0, u "<init>"), (0, u "()V"), (0, .fieldref 8 9), (0, .class_ 10), (0, .nameAndType 11 12), (0, u "com/example/stubwright/stubwright/idl/PrimitiveType"), (0, u "BOOLEAN"), (0, u "Lcom/example/stubwright/stubwright/idl/PrimitiveType;"), (0, .fieldref 8 14), (0, .nameAndType 15 12), (0, u "CHAR"), (0, .fieldref 8 17), (0, .nameAndType 18 12), (0, u "WCHAR"), (0, .fieldref 8 20), (0, .nameAndType 21 12), (0, u "OCTET"), (0, .fieldref 8 23), (0, .nameAndType 24 12), (0, u "SHORT"), (0, .fieldref 8 26), (0, .nameAndType 27 12), (0, u "UNSIGNED_SHORT"), (0, .fieldref 8 29), (0, .nameAndType 30 12), (0, u "LONG"), (0, .fieldref 8 32), (0, .nameAndType 33 12), (0, u "UNSIGNED_LONG"), (0, .fieldref 8 35), (0, .nameAndType 36 12), (0, u "LONG_LONG"), (0, .fieldref 8 38), (0, .nameAndType 39 12), (0, u "UNSIGNED_LONG_LONG"), (0, .fieldref 8 41), (0, .nameAndType 42 12), (0, u "FLOAT"), (0, .fieldref 8 44), (0, .nameAndType 45 12), (0, u "DOUBLE"), (0, .integer 2147483647), (0, .methodref 48 49), (0, .class_ 50), (0, .nameAndType 51 52), (0, u "com/example/stubwright/stubwright/idl/PrimitiveTypeIsIntegerPinLaw"), (0, u "pick"), (0, u "(I)Lcom/example/stubwright/stubwright/idl/PrimitiveType;"), (0, .methodref 8 54), (0, .nameAndType 55 56), (0, u "isInteger"), (0, u "()Z"), (0, .methodref 48 58), (0, .nameAndType 59 60), (0, u "expected"), (0, u "(I)Z"), (3, u "law")] 2

def k1m0 : Method := { name := "<init>", desc := "()V", sig := { parameters := [], returnType := none }, accessFlags := 2, code := none }
def k1c1 : Code := { maxStack := 2, maxLocals := 1, code := method_2_code, exceptionTable := #[], attributes := #[] }
def k1m1 : Method := { name := "pick", desc := "(I)Lcom/example/stubwright/stubwright/idl/PrimitiveType;", sig := { parameters := [.int], returnType := some (.object "com/example/stubwright/stubwright/idl/PrimitiveType") }, accessFlags := 10, code := some k1c1 }
def k1c2 : Code := { maxStack := 2, maxLocals := 1, code := method_3_code, exceptionTable := #[], attributes := #[] }
def k1m2 : Method := { name := "expected", desc := "(I)Z", sig := { parameters := [.int], returnType := some .boolean }, accessFlags := 10, code := some k1c2 }
def k1c3 : Code := { maxStack := 2, maxLocals := 3, code := code, exceptionTable := #[], attributes := #[] }
def k1m3 : Method := { name := "law", desc := "(I)Z", sig := { parameters := [.int], returnType := some .boolean }, accessFlags := 9, code := some k1c3 }
/-- com/example/stubwright/stubwright/idl/PrimitiveTypeIsIntegerPinLaw -/
def k1 : Class := { plain "com/example/stubwright/stubwright/idl/PrimitiveTypeIsIntegerPinLaw" (some 0) with
  accessFlags := 49
  interfaces := #[]
  cf := some (fileOf pool1 48 #[] #[{ accessFlags := 2, nameIndex := 5, descriptorIndex := 6, attributes := #[] }, { accessFlags := 10, nameIndex := 51, descriptorIndex := 52, attributes := #[] }, { accessFlags := 10, nameIndex := 59, descriptorIndex := 60, attributes := #[] }, { accessFlags := 9, nameIndex := 64, descriptorIndex := 60, attributes := #[] }] 49 2 #[] #[])
  fields := #[]
  methods := #[k1m0, k1m1, k1m2, k1m3]
  instanceTypes := #[]
  staticTypes := #[]
  resolved := Array.replicate 67 none
  statics := none }

def pool2 : Array CpInfo := pool [(1, .class_ 2), (0, u "java/lang/constant/Constable"), (0, .class_ 4), (0, u "java/lang/Object")] 6

/-- java/lang/constant/Constable -/
def k2 : Class := { plain "java/lang/constant/Constable" (some 0) with
  accessFlags := 1537
  interfaces := #[]
  cf := some (fileOf pool2 1 #[] #[] 1537 3 #[] #[])
  fields := #[]
  methods := #[]
  instanceTypes := #[]
  staticTypes := #[]
  resolved := Array.replicate 11 none
  statics := none }

def pool3 : Array CpInfo := pool [(1, .class_ 2), (0, u "java/lang/Comparable"), (0, .class_ 4), (0, u "java/lang/Object")] 7

/-- java/lang/Comparable -/
def k3 : Class := { plain "java/lang/Comparable" (some 0) with
  accessFlags := 1537
  interfaces := #[]
  cf := some (fileOf pool3 1 #[] #[] 1537 3 #[] #[])
  fields := #[]
  methods := #[]
  instanceTypes := #[]
  staticTypes := #[]
  resolved := Array.replicate 12 none
  statics := none }

def pool4 : Array CpInfo := pool [(1, .class_ 2), (0, u "java/io/Serializable"), (0, .class_ 4), (0, u "java/lang/Object")] 2

/-- java/io/Serializable -/
def k4 : Class := { plain "java/io/Serializable" (some 0) with
  accessFlags := 1537
  interfaces := #[]
  cf := some (fileOf pool4 1 #[] #[] 1537 3 #[] #[])
  fields := #[]
  methods := #[]
  instanceTypes := #[]
  staticTypes := #[]
  resolved := Array.replicate 7 none
  statics := none }

def pool5 : Array CpInfo := pool [(2, .class_ 4), (1, u "java/lang/Enum"), (0, u "name"), (0, u "Ljava/lang/String;"), (2, u "ordinal"), (0, u "I"), (1, .class_ 14), (1, u "java/lang/Object"), (4, u "hash"), (86, .class_ 108), (1, u "java/lang/Enum$EnumDesc"), (2, .class_ 112), (0, u "java/lang/constant/Constable"), (0, .class_ 114), (0, u "java/lang/Comparable"), (0, .class_ 116), (0, u "java/io/Serializable")] 87

/-- java/lang/Enum -/
def k5 : Class := { plain "java/lang/Enum" (some 0) with
  accessFlags := 1057
  interfaces := #[2, 3, 4]
  cf := some (fileOf pool5 2 #[.nestMembers #[106]] #[] 1057 12 #[111, 113, 115] #[{ accessFlags := 18, nameIndex := 5, descriptorIndex := 6, attributes := #[] }, { accessFlags := 18, nameIndex := 9, descriptorIndex := 10, attributes := #[] }, { accessFlags := 2, nameIndex := 19, descriptorIndex := 10, attributes := #[] }])
  fields := #[{ name := "name", type := (.object "java/lang/String"), accessFlags := 18, slot := 0, constantValue := 0 }, { name := "ordinal", type := .int, accessFlags := 18, slot := 1, constantValue := 0 }, { name := "hash", type := .int, accessFlags := 2, slot := 2, constantValue := 0 }]
  methods := #[]
  instanceTypes := #[(.object "java/lang/String"), .int, .int]
  staticTypes := #[]
  resolved := Array.replicate 204 none
  statics := none }

def pool6 : Array CpInfo := pool [(1, .class_ 2), (0, u "com/example/stubwright/stubwright/idl/IdlType"), (0, .class_ 4), (0, u "java/lang/Object"), (0, u "MAX_BOUND"), (0, u "J")] 32

/-- com/example/stubwright/stubwright/idl/IdlType -/
def k6 : Class := { plain "com/example/stubwright/stubwright/idl/IdlType" (some 0) with
  accessFlags := 1537
  interfaces := #[]
  cf := some (fileOf pool6 1 #[] #[] 1537 3 #[] #[{ accessFlags := 25, nameIndex := 5, descriptorIndex := 6, attributes := #[] }])
  fields := #[{ name := "MAX_BOUND", type := .long, accessFlags := 25, slot := 0, constantValue := 0 }]
  methods := #[]
  instanceTypes := #[]
  staticTypes := #[.long]
  resolved := Array.replicate 39 none
  statics := none }

def pool7 : Array CpInfo := pool [(1, .class_ 2), (0, u "com/example/stubwright/stubwright/idl/PrimitiveType"), (2, u "BOOLEAN"), (0, u "Lcom/example/stubwright/stubwright/idl/PrimitiveType;"), (2, u "CHAR"), (2, u "WCHAR"), (0, .fieldref 1 14), (0, .nameAndType 15 6), (0, u "OCTET"), (2, u "SHORT"), (2, u "UNSIGNED_SHORT"), (2, u "LONG"), (2, u "UNSIGNED_LONG"), (2, u "LONG_LONG"), (2, u "UNSIGNED_LONG_LONG"), (2, u "FLOAT"), (2, u "DOUBLE"), (2, u "$VALUES"), (0, u "[Lcom/example/stubwright/stubwright/idl/PrimitiveType;"), (6, .class_ 52), (1, u "java/lang/Enum"), (11, u "spelling"), (0, u "Ljava/lang/String;"), (2, u "kindName"), (0, .fieldref 1 70), (0, .nameAndType 71 72), (0, u "bits"), (0, u "I"), (2, u "signed"), (0, u "Z"), (85, .class_ 163), (0, u "com/example/stubwright/stubwright/idl/IdlType"), (9, u "isInteger"), (0, u "()Z")] 23

def k7c0 : Code := { maxStack := 2, maxLocals := 1, code := prog_30_method_7_code, exceptionTable := #[], attributes := #[] }
def k7m0 : Method := { name := "isInteger", desc := "()Z", sig := { parameters := [], returnType := some .boolean }, accessFlags := 1, code := some k7c0 }
/-- com/example/stubwright/stubwright/idl/PrimitiveType -/
def k7 : Class := { plain "com/example/stubwright/stubwright/idl/PrimitiveType" (some 5) with
  accessFlags := 16433
  interfaces := #[6]
  cf := some (fileOf pool7 1 #[] #[{ accessFlags := 1, nameIndex := 173, descriptorIndex := 174, attributes := #[] }] 16433 50 #[162] #[{ accessFlags := 16409, nameIndex := 5, descriptorIndex := 6, attributes := #[] }, { accessFlags := 16409, nameIndex := 9, descriptorIndex := 6, attributes := #[] }, { accessFlags := 16409, nameIndex := 12, descriptorIndex := 6, attributes := #[] }, { accessFlags := 16409, nameIndex := 15, descriptorIndex := 6, attributes := #[] }, { accessFlags := 16409, nameIndex := 18, descriptorIndex := 6, attributes := #[] }, { accessFlags := 16409, nameIndex := 21, descriptorIndex := 6, attributes := #[] }, { accessFlags := 16409, nameIndex := 24, descriptorIndex := 6, attributes := #[] }, { accessFlags := 16409, nameIndex := 27, descriptorIndex := 6, attributes := #[] }, { accessFlags := 16409, nameIndex := 30, descriptorIndex := 6, attributes := #[] }, { accessFlags := 16409, nameIndex := 33, descriptorIndex := 6, attributes := #[] }, { accessFlags := 16409, nameIndex := 36, descriptorIndex := 6, attributes := #[] }, { accessFlags := 16409, nameIndex := 39, descriptorIndex := 6, attributes := #[] }, { accessFlags := 18, nameIndex := 64, descriptorIndex := 65, attributes := #[] }, { accessFlags := 18, nameIndex := 68, descriptorIndex := 65, attributes := #[] }, { accessFlags := 18, nameIndex := 71, descriptorIndex := 72, attributes := #[] }, { accessFlags := 18, nameIndex := 75, descriptorIndex := 76, attributes := #[] }, { accessFlags := 4122, nameIndex := 42, descriptorIndex := 43, attributes := #[] }])
  fields := #[{ name := "BOOLEAN", type := (.object "com/example/stubwright/stubwright/idl/PrimitiveType"), accessFlags := 16409, slot := 0, constantValue := 0 }, { name := "CHAR", type := (.object "com/example/stubwright/stubwright/idl/PrimitiveType"), accessFlags := 16409, slot := 1, constantValue := 0 }, { name := "WCHAR", type := (.object "com/example/stubwright/stubwright/idl/PrimitiveType"), accessFlags := 16409, slot := 2, constantValue := 0 }, { name := "OCTET", type := (.object "com/example/stubwright/stubwright/idl/PrimitiveType"), accessFlags := 16409, slot := 3, constantValue := 0 }, { name := "SHORT", type := (.object "com/example/stubwright/stubwright/idl/PrimitiveType"), accessFlags := 16409, slot := 4, constantValue := 0 }, { name := "UNSIGNED_SHORT", type := (.object "com/example/stubwright/stubwright/idl/PrimitiveType"), accessFlags := 16409, slot := 5, constantValue := 0 }, { name := "LONG", type := (.object "com/example/stubwright/stubwright/idl/PrimitiveType"), accessFlags := 16409, slot := 6, constantValue := 0 }, { name := "UNSIGNED_LONG", type := (.object "com/example/stubwright/stubwright/idl/PrimitiveType"), accessFlags := 16409, slot := 7, constantValue := 0 }, { name := "LONG_LONG", type := (.object "com/example/stubwright/stubwright/idl/PrimitiveType"), accessFlags := 16409, slot := 8, constantValue := 0 }, { name := "UNSIGNED_LONG_LONG", type := (.object "com/example/stubwright/stubwright/idl/PrimitiveType"), accessFlags := 16409, slot := 9, constantValue := 0 }, { name := "FLOAT", type := (.object "com/example/stubwright/stubwright/idl/PrimitiveType"), accessFlags := 16409, slot := 10, constantValue := 0 }, { name := "DOUBLE", type := (.object "com/example/stubwright/stubwright/idl/PrimitiveType"), accessFlags := 16409, slot := 11, constantValue := 0 }, { name := "spelling", type := (.object "java/lang/String"), accessFlags := 18, slot := 3, constantValue := 0 }, { name := "kindName", type := (.object "java/lang/String"), accessFlags := 18, slot := 4, constantValue := 0 }, { name := "bits", type := .int, accessFlags := 18, slot := 5, constantValue := 0 }, { name := "signed", type := .boolean, accessFlags := 18, slot := 6, constantValue := 0 }, { name := "$VALUES", type := (.array (.object "com/example/stubwright/stubwright/idl/PrimitiveType")), accessFlags := 4122, slot := 12, constantValue := 0 }]
  methods := #[k7m0]
  instanceTypes := #[(.object "java/lang/String"), .int, .int, (.object "java/lang/String"), (.object "java/lang/String"), .int, .boolean]
  staticTypes := #[(.object "com/example/stubwright/stubwright/idl/PrimitiveType"), (.object "com/example/stubwright/stubwright/idl/PrimitiveType"), (.object "com/example/stubwright/stubwright/idl/PrimitiveType"), (.object "com/example/stubwright/stubwright/idl/PrimitiveType"), (.object "com/example/stubwright/stubwright/idl/PrimitiveType"), (.object "com/example/stubwright/stubwright/idl/PrimitiveType"), (.object "com/example/stubwright/stubwright/idl/PrimitiveType"), (.object "com/example/stubwright/stubwright/idl/PrimitiveType"), (.object "com/example/stubwright/stubwright/idl/PrimitiveType"), (.object "com/example/stubwright/stubwright/idl/PrimitiveType"), (.object "com/example/stubwright/stubwright/idl/PrimitiveType"), (.object "com/example/stubwright/stubwright/idl/PrimitiveType"), (.array (.object "com/example/stubwright/stubwright/idl/PrimitiveType"))]
  resolved := Array.replicate 198 none
  statics := some 0 }

def pool8 : Array CpInfo := pool [(1, u "java/lang/Cloneable"), (0, .class_ 1), (0, u "java/lang/Object"), (0, .class_ 3)] 3

/-- java/lang/Cloneable -/
def k8 : Class := { plain "java/lang/Cloneable" (some 0) with
  accessFlags := 1537
  interfaces := #[]
  cf := some (fileOf pool8 2 #[] #[] 1537 4 #[] #[])
  fields := #[]
  methods := #[]
  instanceTypes := #[]
  staticTypes := #[]
  resolved := Array.replicate 8 none
  statics := none }

/-- the primitive byte -/
def k9 : Class := { plain "byte" none with kind := .primitive 'B', accessFlags := 0x411 }
/-- [B -/
def k10 : Class := { plain "[B" (some 0) with kind := .array 9 .byte, interfaces := #[8, 4], accessFlags := 1041 }

/-- the primitive int -/
def k11 : Class := { plain "int" none with kind := .primitive 'I', accessFlags := 0x411 }
/-- [I -/
def k12 : Class := { plain "[I" (some 0) with kind := .array 11 .int, interfaces := #[8, 4], accessFlags := 1041 }

def heap : Heap := #[{ cls := 7, slots := #[.ref 1, .ref 2, .ref 3, .ref 4, .ref 5, .ref 6, .ref 7, .ref 8, .ref 9, .ref 10, .ref 11, .ref 12, .null], vm := .statics 7 },
  { cls := 7, slots := #[.null, .int 0, .int 0, .null, .null, .int 0, .int 0], vm := .none },
  { cls := 7, slots := #[.null, .int 1, .int 0, .null, .null, .int 0, .int 0], vm := .none },
  { cls := 7, slots := #[.null, .int 2, .int 0, .null, .null, .int 0, .int 0], vm := .none },
  { cls := 7, slots := #[.null, .int 3, .int 0, .null, .null, .int 8, .int 0], vm := .none },
  { cls := 7, slots := #[.null, .int 4, .int 0, .null, .null, .int 16, .int 0], vm := .none },
  { cls := 7, slots := #[.null, .int 5, .int 0, .null, .null, .int 16, .int 0], vm := .none },
  { cls := 7, slots := #[.null, .int 6, .int 0, .null, .null, .int 32, .int 0], vm := .none },
  { cls := 7, slots := #[.null, .int 7, .int 0, .null, .null, .int 32, .int 0], vm := .none },
  { cls := 7, slots := #[.null, .int 8, .int 0, .null, .null, .int 64, .int 0], vm := .none },
  { cls := 7, slots := #[.null, .int 9, .int 0, .null, .null, .int 64, .int 0], vm := .none },
  { cls := 7, slots := #[.null, .int 10, .int 0, .null, .null, .int 0, .int 0], vm := .none },
  { cls := 7, slots := #[.null, .int 11, .int 0, .null, .null, .int 0, .int 0], vm := .none }]
def classes : Array Class := #[k0, k1, k2, k3, k4, k5, k6, k7, k8, k9, k10, k11, k12]
def interned : List (Array UInt16 × Addr) := []
def slotsUsed : Nat := 97
def theMethod : MethodId := ⟨1, 3⟩
def args0 : Array Value := #[.int 5]
def aboutOver (below : List Frame) : State where
  vm := { classes := classes, interned := interned.toArray }
  heap := heap
  slotsUsed := slotsUsed
  threads := #[{ frames := .invoking theMethod args0 :: below }]
def below0 : List Frame := [.native { method := ⟨0, 0⟩, args := #[] }]
def about1 : State := aboutOver below0
def p0 : Program := .bare "" "" ""
def e0 : Env := launch0.env 0 0 0
theorem w_frames : about1.frames = Frame.invoking theMethod args0 :: below0 := rfl
set_option maxRecDepth 65536 in
theorem w_args : argsFit about1.vm theMethod args0 = true := by decide +kernel
set_option maxRecDepth 65536 in
theorem w_heap : heapFits about1 = true := by decide +kernel
set_option maxRecDepth 65536 in
theorem w_runnable : about1.curStatus? = some .runnable := by decide +kernel
set_option maxRecDepth 65536 in
theorem w_alone : about1.alone = true := by decide +kernel
set_option maxRecDepth 65536 in
theorem w_named : about1.methodNamed? x = some theMethod := by decide +kernel
set_option maxRecDepth 65536 in
theorem w_hears : about1.hears theMethod below0 = true := by decide +kernel
set_option maxRecDepth 65536 in
theorem w_ripe : about1.ripe theMethod args0 below0 = true := by decide +kernel
theorem w_running : about1.status = .running := rfl
set_option maxRecDepth 65536 in
theorem w_room : about1.hasRoom e0.platform room_1 = true :=
  launch0.hasRoom_least _ room_1 (by decide +kernel) (by decide +kernel) (by decide +kernel) (by decide +kernel) (by decide +kernel) (by decide +kernel)
theorem allAtoms_all (ts : List Jvm.Cond) (a : Array Jvm.Value) (st : Jvm.State) : (allAtoms ts).before a st = ts.all (fun c => c.before a st) := by
  induction ts with
  | nil => rfl
  | cons c t ih =>
    show (Jvm.Cond.and c (allAtoms t)).before a st = _
    rw [Jvm.Cond.before_and, ih, List.all_cons]
def words1 : List Jvm.Cond := Jvm.Cond.code x code maxLocals ret :: tables_1
/-- a 'code' word, met by the world's own term for the bytes: nothing is compared byte by byte -/
theorem code_word {y : MethodName} {bytes : ByteArray} {mx : Nat} {rt : Option FieldType} {a : Array Value} {s : State} {m : MethodId} {meth : Method} {c : Code} (h1 : s.methodNamed? y = some m) (h2 : s.vm.method? m = some meth) (h3 : meth.code = some c) (h4 : c.code = bytes)
    (h5 : (c.maxLocals == mx && c.exceptionTable.isEmpty && decide (c.maxStack ≤ mostOperands) && decide (meth.sig.returnType = rt) && !meth.locks && decide (parseMethodDescriptor y.desc = some meth.sig)) = true) : (Jvm.Cond.code y bytes mx rt).before a s = true := by
  simp only [Bool.and_eq_true, beq_iff_eq, Bool.not_eq_true', decide_eq_true_eq] at h5
  obtain ⟨⟨⟨⟨⟨g1, g2⟩, g3⟩, g4⟩, g5⟩, g6⟩ := h5
  simp [Cond.before, Cond.holds, Cond.value, h1, h2, h3, h4, g1, g2, g3, g4, g5, g6]
def isCode : Jvm.Cond → Bool
  | .code _ _ _ _ => true
  | _ => false
theorem all_split {L : List Jvm.Cond} {P : Jvm.Cond → Bool} (h1 : L.all (fun c => isCode c || P c) = true) (h2 : ∀ c ∈ L.filter isCode, P c = true) : L.all P = true := by
  refine List.all_eq_true.mpr fun c hc => ?_
  have h := List.all_eq_true.mp h1 c hc
  rcases Bool.eq_false_or_eq_true (isCode c) with hi | hi
  · exact h2 c (List.mem_filter.mpr ⟨hc, hi⟩)
  · simpa [hi] using h
set_option maxRecDepth 65536 in
theorem w_c0 : (Jvm.Cond.code x code maxLocals ret).before args0 about1 = true := code_word (m := ⟨1, 3⟩) (meth := k1m3) (c := k1c3) (by decide +kernel) rfl rfl rfl (by decide +kernel)
set_option maxRecDepth 65536 in
theorem w_c1 : (Jvm.Cond.code ({ cls := "com/example/stubwright/stubwright/idl/PrimitiveTypeIsIntegerPinLaw", name := "pick", desc := "(I)Lcom/example/stubwright/stubwright/idl/PrimitiveType;" } : Jvm.MethodName) method_2_code (1 : Nat) (Option.some (Jvm.ClassFile.FieldType.object "com/example/stubwright/stubwright/idl/PrimitiveType"))).before args0 about1 = true := code_word (m := ⟨1, 1⟩) (meth := k1m1) (c := k1c1) (by decide +kernel) rfl rfl rfl (by decide +kernel)
set_option maxRecDepth 65536 in
theorem w_c2 : (Jvm.Cond.code ({ cls := "com/example/stubwright/stubwright/idl/PrimitiveType", name := "isInteger", desc := "()Z" } : Jvm.MethodName) prog_30_method_7_code (1 : Nat) (Option.some Jvm.ClassFile.FieldType.boolean)).before args0 about1 = true := code_word (m := ⟨7, 0⟩) (meth := k7m0) (c := k7c0) (by decide +kernel) rfl rfl rfl (by decide +kernel)
set_option maxRecDepth 65536 in
theorem w_c3 : (Jvm.Cond.code ({ cls := "com/example/stubwright/stubwright/idl/PrimitiveTypeIsIntegerPinLaw", name := "expected", desc := "(I)Z" } : Jvm.MethodName) method_3_code (1 : Nat) (Option.some Jvm.ClassFile.FieldType.boolean)).before args0 about1 = true := code_word (m := ⟨1, 2⟩) (meth := k1m2) (c := k1c2) (by decide +kernel) rfl rfl rfl (by decide +kernel)
def codes1 : List Jvm.Cond := [Jvm.Cond.code x code maxLocals ret, Jvm.Cond.code ({ cls := "com/example/stubwright/stubwright/idl/PrimitiveTypeIsIntegerPinLaw", name := "pick", desc := "(I)Lcom/example/stubwright/stubwright/idl/PrimitiveType;" } : Jvm.MethodName) method_2_code (1 : Nat) (Option.some (Jvm.ClassFile.FieldType.object "com/example/stubwright/stubwright/idl/PrimitiveType")), Jvm.Cond.code ({ cls := "com/example/stubwright/stubwright/idl/PrimitiveType", name := "isInteger", desc := "()Z" } : Jvm.MethodName) prog_30_method_7_code (1 : Nat) (Option.some Jvm.ClassFile.FieldType.boolean), Jvm.Cond.code ({ cls := "com/example/stubwright/stubwright/idl/PrimitiveTypeIsIntegerPinLaw", name := "expected", desc := "(I)Z" } : Jvm.MethodName) method_3_code (1 : Nat) (Option.some Jvm.ClassFile.FieldType.boolean)]
set_option maxRecDepth 65536 in
theorem codes_eq : words1.filter isCode = codes1 := rfl
theorem w_codes : ∀ c ∈ words1.filter isCode, c.before args0 about1 = true := by
  rw [codes_eq]
  intro c hc
  simp only [codes1, List.mem_cons, List.not_mem_nil, or_false] at hc
  rcases hc with rfl | rfl | rfl | rfl
  · exact w_c0
  · exact w_c1
  · exact w_c2
  · exact w_c3
set_option maxRecDepth 65536 in
theorem w_t1 : (words1.take 24).all (fun c => isCode c || c.before args0 about1) = true := by decide +kernel
set_option maxRecDepth 65536 in
theorem w_t2 : (words1.drop 24).all (fun c => isCode c || c.before args0 about1) = true := by decide +kernel
theorem w_tables : (allAtoms (Jvm.Cond.code x code maxLocals ret :: tables_1)).before args0 about1 = true := by
  rw [allAtoms_all]
  show words1.all (fun c => c.before args0 about1) = true
  refine all_split ?_ w_codes
  rw [← List.take_append_drop 24 words1, List.all_append, w_t1, w_t2]
  rfl
set_option maxRecDepth 65536 in
theorem w_case : (Jvm.Cond.and given_1 narrow_1).before args0 about1 = true := by decide +kernel
theorem w_applies : (headSpec (Jvm.Cond.code x code maxLocals ret :: tables_1) room_1).applies x e0.platform about1 = true :=
  (Spec.applies_iff w_frames).mpr ⟨w_running, w_runnable, w_alone, w_named, w_hears, w_ripe, w_room, w_tables⟩
theorem atStart : AtStart classFile x code maxLocals ret World_1 tables_1 room_1 Calls_1 rest_1 Pre_1 launch0 p0 e0 about1 theMethod args0 below0 :=
  ⟨lists_1, trivial, launch0.admits_env _ _ _, launch0.least_env, fairChoices_fair.cas, fairChoices_fair.clock, w_frames, w_args, w_heap, w_applies, trivial, trivial, w_case⟩
end start1
theorem witness_1 : WitnessClaimed_1 := ⟨start1.p0, start1.e0, start1.about1, start1.theMethod, start1.args0, start1.below0, start1.atStart⟩
end Jvm.Pilot.@@N@@
